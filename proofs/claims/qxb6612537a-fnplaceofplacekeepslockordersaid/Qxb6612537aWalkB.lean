import Derived.Test.Qxb6612537aWalkA
namespace Go.Proofs.Qxb6612537a
open Go.RowKit

/-- How many of the first k numbers lie below x. -/
def cnt (z : Nat → Int) (x : Int) : Nat → Nat
  | 0 => 0
  | k + 1 => cnt z x k + if z k < x then 1 else 0
theorem cnt_le (z : Nat → Int) (x : Int) (k : Nat) : cnt z x k ≤ k := by
  induction k with
  | zero => exact Nat.le_refl _
  | succ k ih => unfold cnt; split <;> omega
theorem cnt_yes {z : Nat → Int} {x : Int} {k : Nat} (h : z k < x) : cnt z x (k + 1) = cnt z x k + 1 := by rw [cnt, if_pos h]
theorem cnt_no {z : Nat → Int} {x : Int} {k : Nat} (h : ¬ z k < x) : cnt z x (k + 1) = cnt z x k := by rw [cnt, if_neg h]; rfl
theorem asc_lt {z : Nat → Int} {n : Nat} (h : ∀ i, i + 1 < n → z i < z (i + 1)) : ∀ d i, i + d + 1 < n → z i < z (i + d + 1)
  | 0, i, hi => h i hi
  | d + 1, i, hi => by
    have h1 := asc_lt h d i (by omega)
    have h2 := h (i + d + 1) (by omega)
    have e : i + (d + 1) + 1 = i + d + 1 + 1 := by omega
    rw [e]
    omega
theorem asc_of {z : Nat → Int} {n : Nat} (h : ∀ i, i + 1 < n → z i < z (i + 1)) {i j : Nat} (hij : i < j) (hj : j < n) : z i < z j := by
  have := asc_lt h (j - i - 1) i (by omega)
  rwa [show i + (j - i - 1) + 1 = j from by omega] at this
theorem cnt_eq {z : Nat → Int} {n : Nat} {x : Int} (h : ∀ i, i + 1 < n → z i < z (i + 1)) {i : Nat} (hi : i ≤ n) (h1 : ∀ j, j < i → z j < x) (h2 : i < n → x ≤ z i) :
    ∀ k, k ≤ n → cnt z x k = if k ≤ i then k else i
  | 0, _ => by simp [cnt]
  | k + 1, hk => by
    have ih := cnt_eq h hi h1 h2 k (by omega)
    by_cases c : k < i
    · rw [cnt_yes (h1 k c), ih, if_pos (by omega), if_pos (by omega)]
    · have hn : ¬ z k < x := by
        by_cases e : k = i
        · subst e; have := h2 (by omega); omega
        · have := asc_of h (i := i) (j := k) (by omega) (by omega)
          have := h2 (by omega)
          omega
      rw [cnt_no hn, ih]
      by_cases e : k ≤ i
      · rw [if_pos e, if_neg (by omega)]; omega
      · rw [if_neg e, if_neg (by omega)]
theorem cnt_at {z : Nat → Int} {n : Nat} {x : Int} (h : ∀ i, i + 1 < n → z i < z (i + 1)) {i : Nat} (hi : i ≤ n) (h1 : ∀ j, j < i → z j < x) (h2 : i < n → x ≤ z i) : cnt z x n = i := by
  rw [cnt_eq h hi h1 h2 n (Nat.le_refl _)]
  split <;> omega
theorem place_own {z : Nat → Int} {n m : Nat} (h : ∀ i, i + 1 < n → z i < z (i + 1)) (hm : m < n) {i : Nat} (h1 : ∀ j, j < i → z j < z m) (h2 : i < n → z m ≤ z i) : i = m := by
  have a : ¬ m < i := fun c => by have := h1 m c; omega
  have b : ¬ i < m := fun c => by have := h2 (by omega); have := asc_of h c hm; omega
  omega

set_option maxHeartbeats 400000 in
theorem place19 (B n c pb : Nat) (q : Nat → Nat) (f : Nat → Int) (x : Int) (w : World) (hn : n ≤ 70000)
    (hq : ∀ i, i < n → w.cell? ⟨B, i, none⟩ = some (.pointer (some ⟨q i, 0, none⟩)))
    (hf : ∀ i, i < n → IsPart w (q i) (f i)) (hp : IsPart w pb x) :
    Calls Try.prog 19 #[.slice (some ⟨B, 0, none⟩) n c, .pointer (some ⟨pb, 0, none⟩)] w fun e w' => PlaceEnd n pb q f x w e w' := by
  go_enter Try.func19, Try.ntmps19
  go_wp2_with fail
  refine (place B n c pb q f x _ hn hq hf hp).mono ?_
  rintro e w1 ⟨i, r, hi, rfl, h1, h2, h3, m, rfl⟩
  go_wp2
  go_ret2
  exact ⟨i, r, hi, rfl, h1, h2, h3, m, rfl⟩

set_option maxHeartbeats 400000 in
theorem asc0 (a : Option Addr) (cap : Nat) (w : World) :
    Calls Try.prog 16 #[.slice a 0 cap] w fun e w' => e = .returned (.bool true) ∧ w' = w := by
  go_enter Try.func16, Try.ntmps16
  go_wp2
  refine wp_loop_rounds 1 ?_
  rw [rounds_succ]
  go_wp2
  go_ret
  exact ⟨rfl, rfl⟩

set_option maxHeartbeats 400000 in
theorem build0 (a : Option Addr) (cap : Nat) (z : Nat → Int) (w : World) :
    Calls Try.prog 17 #[.slice a 0 cap] w fun e w' => e = .returned (.slice (some ⟨w.heap.size, 0, none⟩) 0 0) ∧ Parts w.heap.size 0 0 z w' ∧ Below w.heap.size w w' := by
  have hs := Parts.start 0 z w (by omega)
  have hmk := make_parts 0 (by omega)
  generalize madeCells #[.pointer none] 0 = mc at *
  simp only [Int.natCast_zero] at hmk
  go_enter Try.func17, Try.ntmps17
  go_wp2
  refine wp_loop_rounds 1 ?_
  rw [rounds_succ]
  go_wp2
  go_ret
  exact ⟨rfl, hs, (Below.refl _ _).alloc (Nat.le_refl _) _⟩

/-- The numbers that came in. -/
def Ints (w : World) (a : Option Addr) (len : Nat) (z : Nat → Int) : Prop :=
  len = 0 ∨ ∃ b off, a = some ⟨b, off, none⟩ ∧ b < w.heap.size ∧ ∀ j, j < len → w.cell? ⟨b, off + j, none⟩ = some (.int .i64 (z j))

theorem asc_any (a : Option Addr) (len cap : Nat) (z : Nat → Int) (w : World) (hl : len ≤ 70000) (h : Ints w a len z) :
    Calls Try.prog 16 #[.slice a len cap] w fun e w' => ∃ r : Bool, e = .returned (.bool r) ∧ (r = true ↔ ∀ i, i + 1 < len → z i < z (i + 1)) ∧ ∃ n, w' = w.drewN n := by
  rcases h with rfl | ⟨b, off, rfl, hb, hc⟩
  · refine (asc0 a cap w).mono ?_
    rintro e w' ⟨rfl, rfl⟩
    exact ⟨true, rfl, by simp, 0, rfl⟩
  · exact asc b off len cap z w hl hc

theorem build_any (a : Option Addr) (len cap : Nat) (z : Nat → Int) (w : World) (hl : len ≤ 65536) (h : Ints w a len z) :
    Calls Try.prog 17 #[.slice a len cap] w fun e w' => e = .returned (.slice (some ⟨w.heap.size, 0, none⟩) len len) ∧ Parts w.heap.size len len z w' ∧ Below w.heap.size w w' := by
  rcases h with rfl | ⟨b, off, rfl, hb, hc⟩
  · exact build0 a cap z w
  · exact build b off len cap z w hl hb hc

set_option maxHeartbeats 400000 in
theorem fnd_long (a : Option Addr) (len cap : Nat) (x y : Int) (w : World) (h : 65536 < len) (hm : len ≤ maxLen) :
    Calls Try.prog 5 #[.slice a len cap, .int .i64 x, .int .i64 y] w fun e w' => e = .returned (.bool true) ∧ w' = w := by
  unfold maxLen at hm
  by_cases h2 : 1048576 < len
  · go_enter Try.func5, Try.ntmps5
    go_wp2
    go_ret
    exact ⟨rfl, rfl⟩
  · go_enter Try.func5, Try.ntmps5
    go_wp2
    go_ret
    exact ⟨rfl, rfl⟩

end Go.Proofs.Qxb6612537a
