import Derived.Test.Qxb6612537aWalkB
namespace Go.Proofs.Qxb6612537a
open Go.RowKit

/-- What Parts gives the search. -/
theorem Parts.at {B len : Nat} {z : Nat → Int} {w : World} (h : Parts B len len z w) (i : Nat) (hi : i < len) : w.cell? ⟨B, i, none⟩ = some (.pointer (some ⟨B + 1 + 3 * i + 1, 0, none⟩)) := by
  obtain ⟨xs, hx, hp⟩ := h.row
  rw [hx.cellAt i (by omega)]
  exact hp i hi

set_option maxHeartbeats 1000000 in
theorem fnd_in (b off len cap m : Nat) (z : Nat → Int) (x : Int) (w : World) (hl : len ≤ 65536) (hb : b < w.heap.size)
    (hc : ∀ j, j < len → w.cell? ⟨b, off + j, none⟩ = some (.int .i64 (z j))) (hm : m < len) :
    Calls Try.prog 5 #[.slice (some ⟨b, off, none⟩) len cap, .int .i64 x, .int .i64 m] w fun e w' => e = .returned (.bool true) ∧ Below w.heap.size w w' := by
  have hm' : (m : Int) < (len : Int) := by omega
  have hm0 : (0 : Int) ≤ (m : Int) := by omega
  go_enter Try.func5, Try.ntmps5
  go_wp2_with fail
  refine (bytes_yes _ len _ _ _ _ hl).mono ?_
  rintro e w1 ⟨rfl, rfl⟩
  go_wp2_with fail
  refine (asc b off len cap z _ (by omega) hc).mono ?_
  rintro e w1 ⟨r, rfl, hr, n, rfl⟩
  cases r with
  | false =>
    go_wp2
    go_ret
    exact ⟨rfl, below_drewN (Below.refl _ _) _⟩
  | true =>
    have HR : Hid (∀ i, i + 1 < len → z i < z (i + 1)) := hr.1 rfl
    clear hr
    go_wp2_with fail
    refine (build b off len cap z _ hl (by simpa using hb) (fun j hj => by simpa using hc j hj)).mono ?_
    rintro e w1 ⟨rfl, hp, hbl⟩
    simp only [World.heap_drewN] at hp hbl ⊢
    have hc1 : ∀ j, j < len → w1.cell? ⟨b, off + j, none⟩ = some (.int .i64 (z j)) := fun j hj => (hbl.cell (p := ⟨b, off + j, none⟩) hb).trans (by simpa using hc j hj)
    have hpm := hp.at m hm
    have hzm := hc1 m hm
    go_wp2
    go_loop [11, 12] (fun t i => ∃ k : Nat, k ≤ len ∧ i = .int .i64 k ∧ t = .int .i64 (cnt z (z m) k)) (fun _ i => len - (intOf i).toNat)
    case atStart => exact ⟨0, by omega, rfl, rfl⟩
    case round =>
      obtain ⟨k, hk, rfl, rfl⟩ := hrel
      have hcl := cnt_le z (z m) k
      by_cases hlt : k < len
      · have hzk := hc1 k hlt
        by_cases hx : z k < z m
        · have HC : Hid (cnt z (z m) (k + 1) = cnt z (z m) k + 1) := cnt_yes hx
          go_wp2
          go_round
          case rel => exact ⟨k + 1, by omega, by go_num, by rw [HC.out]; go_num⟩
          case measure => simp [intOf]; omega
        · have HC : Hid (cnt z (z m) (k + 1) = cnt z (z m) k) := cnt_no hx
          go_wp2
          go_round
          case rel => exact ⟨k + 1, by omega, by go_num, by rw [HC.out]⟩
          case measure => simp [intOf]; omega
      · have he : k = len := by omega
        subst he
        clear hc1 hc hcl hpm hzm
        go_wp2_with fail
        refine (place19 w.heap.size k k (w.heap.size + 1 + 3 * m + 1) (fun i => w.heap.size + 1 + 3 * i + 1) z (z m) _ (by omega) (fun i hi => hp.at i hi) (fun i hi => hp.index i hi) (hp.index m hm)).mono ?_
        rintro e w2 ⟨i, r, hi, rfl, h1, h2, h3, d, rfl⟩
        have hcn := cnt_at HR.out hi h1 h2
        have him := place_own HR.out hm h1 h2
        have hr : r = true := h3.2 ⟨by omega, by simp only [him]⟩
        subst hr
        rw [hcn]
        clear h1 h2 h3 hcn him
        go_wp2
        go_ret
        exact ⟨rfl, below_drewN ((below_drewN (Below.refl _ _) _).trans hbl) _⟩

theorem Ints.later {w w' : World} {a : Option Addr} {len : Nat} {z : Nat → Int} (h : Ints w a len z) (hb : Below w.heap.size w w') : Ints w' a len z := by
  rcases h with h | ⟨b, off, h1, h2, h3⟩
  · exact .inl h
  · exact .inr ⟨b, off, h1, Nat.lt_of_lt_of_le h2 hb.size, fun j hj => (hb.cell (p := ⟨b, off + j, none⟩) h2).trans (h3 j hj)⟩

theorem Parts.and {B len : Nat} {z : Nat → Int} {w w1 : World} {n : Int} (h : Parts B len len z w) (hn : IsNew w w1 n) :
    (∀ i, i < len → w1.cell? ⟨B, i, none⟩ = some (.pointer (some ⟨B + 1 + 3 * i + 1, 0, none⟩))) ∧ (∀ i, i < len → IsPart w1 (B + 1 + 3 * i + 1) (z i)) :=
  ⟨fun i hi => (hn.below.cell (p := ⟨B, i, none⟩) (by have := h.size; simp; omega)).trans (h.at i hi), fun i hi => (h.index i hi).of (hn.below.block _ (by have := h.size; omega))⟩

set_option maxHeartbeats 1000000 in
theorem fnd_out_tail (a : Option Addr) (len cap : Nat) (z : Nat → Int) (x y : Int) (w : World) (hl : len ≤ 65536) (h : Ints w a len z) (hy : y < 0 ∨ (len : Int) ≤ y) :
    Calls Try.prog 5 #[.slice a len cap, .int .i64 x, .int .i64 y] w fun e w' => e = .returned (.bool true) ∧ Below w.heap.size w w' := by
  have hy' : y < 0 ∨ (0 ≤ y ∧ decide (y < (len : Int)) = false) := by
    rcases hy with hy | hy
    · exact .inl hy
    · exact .inr ⟨by omega, decide_eq_false (by omega)⟩
  clear hy
  rcases hy' with hy | ⟨hy, hyd⟩
  all_goals
    go_enter Try.func5, Try.ntmps5
    go_wp2_with fail
    refine (bytes_yes _ len _ _ _ _ hl).mono ?_
    rintro e w1 ⟨rfl, rfl⟩
    go_wp2_with fail
    refine (asc_any a len cap z _ (by omega) h).mono ?_
    rintro e w1 ⟨r, rfl, hr, n, rfl⟩
    cases r with
    | false =>
      go_wp2
      go_ret
      exact ⟨rfl, below_drewN (Below.refl _ _) _⟩
    | true =>
      have HR : Hid (∀ i, i + 1 < len → z i < z (i + 1)) := hr.1 rfl
      clear hr
      have hbn : Below w.heap.size w (w.drewN n) := below_drewN (Below.refl _ _) n
      go_wp2_with fail
      refine (build_any a len cap z _ hl (h.later hbn)).mono ?_
      rintro e w1 ⟨rfl, hp, hbl⟩
      simp only [World.heap_drewN] at hp hbl ⊢
      go_wp2_with fail
      refine (newp18 _ _).mono ?_
      rintro e w2 ⟨rfl, hn⟩
      have hbw : Below w.heap.size w w2 := (hbn.trans hbl).trans (hn.below.mono hbl.size)
      have h2 := h.later hbw
      have hsz := hp.size
      obtain ⟨g1, g2⟩ := hp.and hn
      have g3 := hn.index
      rw [hsz] at g3 ⊢
      clear hn hbl hp hbn h hsz
      have G1 : Hid (∀ i, i < len → w2.cell? ⟨w.heap.size, i, none⟩ = some (.pointer (some ⟨w.heap.size + 1 + 3 * i + 1, 0, none⟩))) := g1
      clear g1
      go_wp2
      go_loop [11, 12] (fun t i => ∃ k : Nat, k ≤ len ∧ i = .int .i64 k ∧ t = .int .i64 (cnt z x k)) (fun _ i => len - (intOf i).toNat)
      case atStart => exact ⟨0, by omega, rfl, rfl⟩
      case round =>
        obtain ⟨k, hk, rfl, rfl⟩ := hrel
        have hcl := cnt_le z x k
        by_cases hlt : k < len
        · rcases h2 with h0 | ⟨b, off, rfl, hb, hc1⟩
          · omega
          have hzk := hc1 k hlt
          by_cases hx : z k < x
          · have HC : Hid (cnt z x (k + 1) = cnt z x k + 1) := cnt_yes hx
            go_wp2
            go_round
            case rel => exact ⟨k + 1, by omega, by go_num, by rw [HC.out]; go_num⟩
            case measure => simp [intOf]; omega
          · have HC : Hid (cnt z x (k + 1) = cnt z x k) := cnt_no hx
            go_wp2
            go_round
            case rel => exact ⟨k + 1, by omega, by go_num, by rw [HC.out]⟩
            case measure => simp [intOf]; omega
        · have he : k = len := by omega
          subst he
          clear hcl h2
          go_wp2_with fail
          refine (place19 w.heap.size k k (w.heap.size + 1 + 3 * k + 1) (fun i => w.heap.size + 1 + 3 * i + 1) z x _ (by omega) G1.out g2 g3).mono ?_
          rintro e w3 ⟨i, r, hi, rfl, h1, h2, h3, d, rfl⟩
          have hcn := cnt_at HR.out hi h1 h2
          have hr : r = false := by
            cases r with
            | false => rfl
            | true => exact absurd (h3.1 rfl) (by simp only []; omega)
          subst hr
          rw [hcn]
          clear h1 h2 h3 hcn
          go_wp2
          go_ret
          exact ⟨rfl, below_drewN hbw _⟩

theorem fnd_any (a : Option Addr) (len cap : Nat) (z : Nat → Int) (x y : Int) (w : World) (hm : len ≤ maxLen) (h : Ints w a len z) :
    Calls Try.prog 5 #[.slice a len cap, .int .i64 x, .int .i64 y] w fun e w' => e = .returned (.bool true) ∧ Below w.heap.size w w' := by
  by_cases hl : len ≤ 65536
  · by_cases hy : y < 0 ∨ (len : Int) ≤ y
    · exact fnd_out_tail a len cap z x y w hl h hy
    · obtain ⟨m, rfl⟩ := Int.eq_ofNat_of_zero_le (show 0 ≤ y by omega)
      rcases h with h0 | ⟨b, off, rfl, hb, hc⟩
      · omega
      · exact fnd_in b off len cap m z x w hl hb hc (by omega)
  · refine (fnd_long a len cap x y w (by omega) hm).mono ?_
    rintro e w' ⟨he, rfl⟩
    exact ⟨he, Below.refl _ _⟩
end Go.Proofs.Qxb6612537a
