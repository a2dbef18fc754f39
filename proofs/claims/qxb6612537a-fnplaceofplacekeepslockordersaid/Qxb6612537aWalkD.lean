import Derived.Test.Qxb6612537aWalkC
namespace Go.Proofs.Qxb6612537a
open Go.RowKit

set_option maxHeartbeats 400000 in
theorem bytes20 (a : Option Addr) (len cap : Nat) (x : Int) (w : World) (h : len ≤ 65536) :
    Calls Try.prog 20 #[.slice a len cap, .int .i64 x] w fun e w' => e = .returned (.bool true) ∧ w = w' := by
  go_enter Try.func20, Try.ntmps20
  go_wp2
  go_ret
  exact ⟨rfl, rfl⟩

set_option maxHeartbeats 400000 in
theorem keep_long (a : Option Addr) (len cap : Nat) (x : Int) (w : World) (h : 65536 < len) (hm : len ≤ maxLen) :
    Calls Try.prog 6 #[.slice a len cap, .int .i64 x] w fun e w' => e = .returned (.bool true) ∧ w' = w := by
  unfold maxLen at hm
  by_cases h2 : 1048576 < len
  · go_enter Try.func6, Try.ntmps6
    go_wp2
    go_ret
    exact ⟨rfl, rfl⟩
  · go_enter Try.func6, Try.ntmps6
    go_wp2
    go_ret
    exact ⟨rfl, rfl⟩

/-- The numbers with x laid in at place t. -/
def gz (z : Nat → Int) (x : Int) (t i : Nat) : Int := if i < t then z i else if i = t then x else z (i - 1)
/-- The partitions' blocks with p's laid in at place t. -/
def gq (B pb t i : Nat) : Nat := if i < t then B + 1 + 3 * i + 1 else if i = t then pb else B + 1 + 3 * (i - 1) + 1
theorem gz_lo {z : Nat → Int} {x : Int} {t i : Nat} (h : i < t) : gz z x t i = z i := by rw [gz, if_pos h]
theorem gz_at {z : Nat → Int} {x : Int} {t : Nat} : gz z x t t = x := by rw [gz, if_neg (by omega), if_pos rfl]
theorem gz_hi {z : Nat → Int} {x : Int} {t i : Nat} (h : t ≤ i) : gz z x t (i + 1) = z i := by rw [gz, if_neg (by omega), if_neg (by omega)]; rfl
theorem gq_lo {B pb t i : Nat} (h : i < t) : gq B pb t i = B + 1 + 3 * i + 1 := by rw [gq, if_pos h]
theorem gq_at {B pb t : Nat} : gq B pb t t = pb := by rw [gq, if_neg (by omega), if_pos rfl]
theorem gq_hi {B pb t i : Nat} (h : t ≤ i) : gq B pb t (i + 1) = B + 1 + 3 * i + 1 := by rw [gq, if_neg (by omega), if_neg (by omega)]; rfl

theorem gz_asc {z : Nat → Int} {x : Int} {n t : Nat} (h : ∀ i, i + 1 < n → z i < z (i + 1)) (hne : ∀ i, i < n → z i ≠ x) (ht : t ≤ n) (h1 : ∀ j, j < t → z j < x) (h2 : t < n → x ≤ z t) :
    ∀ i, i + 1 < n + 1 → gz z x t i < gz z x t (i + 1) := by
  intro i hi
  by_cases c1 : i + 1 < t
  · rw [gz_lo (by omega), gz_lo c1]; exact h i (by omega)
  · by_cases c2 : i + 1 = t
    · subst c2; rw [gz_lo (by omega), gz_at]; exact h1 i (by omega)
    · rw [gz_hi (by omega)]
      by_cases c3 : i = t
      · subst c3; rw [gz_at]; have := h2 (by omega); have := hne i (by omega); omega
      · obtain ⟨k, rfl⟩ : ∃ k, i = k + 1 := ⟨i - 1, by omega⟩
        rw [gz_hi (by omega)]; exact h k (by omega)

def ivals (f : Nat → Int) (k : Nat) : List Value := (List.range k).map fun i => .int .i64 (f i)
def pvals (q : Nat → Nat) (k : Nat) : List Value := (List.range k).map fun i => .pointer (some ⟨q i, 0, none⟩)
theorem ivals_succ (f : Nat → Int) (k : Nat) {y : Int} (h : f k = y) : ivals f k ++ [.int .i64 y] = ivals f (k + 1) := by simp [ivals, List.range_succ, h]
theorem pvals_succ (q : Nat → Nat) (k : Nat) {y : Nat} (h : q k = y) : pvals q k ++ [.pointer (some ⟨y, 0, none⟩)] = pvals q (k + 1) := by simp [pvals, List.range_succ, h]
theorem ivals_at (f : Nat → Int) {k i : Nat} (h : i < k) : (ivals f k)[i]? = some (.int .i64 (f i)) := by simp [ivals, h]
theorem pvals_at (q : Nat → Nat) {k i : Nat} (h : i < k) : (pvals q k)[i]? = some (.pointer (some ⟨q i, 0, none⟩)) := by simp [pvals, h]

/-- The two rows that the law makes, behind j appends to the first and k to the second. 'R' is the first row's block, the second's is R + 1. -/
structure Two (W : World) (R cap : Nat) (f : Nat → Int) (q : Nat → Nat) (j k : Nat) (wr : World) : Prop where
  below : Below R W wr
  ints : wr.ownsRow R 3 1 (.slice (some ⟨R, 0, none⟩) j cap) j (ivals f j)
  ptrs : wr.ownsRow R 41 1 (.slice (some ⟨R + 1, 0, none⟩) k cap) k (pvals q k)

theorem Two.size {W : World} {R cap : Nat} {f : Nat → Int} {q : Nat → Nat} {j k : Nat} {wr : World} (h : Two W R cap f q j k wr) : R + 1 < wr.heap.size :=
  (h.ptrs.lt (R + 1) rfl).2

theorem Two.int {W : World} {R cap : Nat} {f : Nat → Int} {q : Nat → Nat} {j k : Nat} {wr w1 : World} (h : Two W R cap f q j k wr) (o : Obj) {y : Int} (hy : f j = y)
    (ho : w1.ownsRow R 3 1 (.slice (some ⟨R, 0, none⟩) (j + 1) cap) (j + 1) (ivals f j ++ [.int .i64 y])) (hg : (wr.alloc o).grownBy w1 (some R)) : Two W R cap f q (j + 1) k w1 := by
  have hs := h.size
  refine ⟨(h.below.alloc (by omega) o).grown hg (by simp; omega) (fun k e => by simp at e; omega), by rw [← ivals_succ f j hy]; exact ho, (h.ptrs.alloc o).kept hg (by simp [Value.ownBlock])⟩

theorem Two.ptr {W : World} {R cap : Nat} {f : Nat → Int} {q : Nat → Nat} {j k : Nat} {wr w1 : World} (h : Two W R cap f q j k wr) (o : Obj) {y : Nat} (hy : q k = y)
    (ho : w1.ownsRow R 41 1 (.slice (some ⟨R + 1, 0, none⟩) (k + 1) cap) (k + 1) (pvals q k ++ [.pointer (some ⟨y, 0, none⟩)])) (hg : (wr.alloc o).grownBy w1 (some (R + 1))) : Two W R cap f q j (k + 1) w1 := by
  have hs := h.size
  refine ⟨(h.below.alloc (by omega) o).grown hg (by simp; omega) (fun k e => by simp at e; omega), (h.ints.alloc o).kept hg (by simp [Value.ownBlock]), by rw [← pvals_succ q k hy]; exact ho⟩

theorem Two.start (W : World) (cap : Nat) (hcap : cap ≤ 70000) (f : Nat → Int) (q : Nat → Nat) :
    Two W W.heap.size cap f q 0 0 ((W.alloc (.cells (madeCells #[.int .i64 0] cap) 3)).alloc (.cells (madeCells #[.pointer none] cap) 41)) := by
  have hm : cap ≤ maxLen := by unfold maxLen; omega
  refine ⟨((Below.refl _ _).alloc (Nat.le_refl _) _).alloc (by simp) _, (World.ownsRow_made W _ cap (Nat.le_refl _) hm (by rw [size_madeCells]; omega)).alloc _, ?_⟩
  have := World.ownsRow_made (base := W.heap.size) (e := 41) (size := 1) (W.alloc (.cells (madeCells #[.int .i64 0] cap) 3)) (madeCells #[.pointer none] cap) cap (by simp) hm (by rw [size_madeCells]; omega)
  simpa [pvals] using this

theorem Two.intAt {W : World} {R cap : Nat} {f : Nat → Int} {q : Nat → Nat} {j k : Nat} {wr : World} (h : Two W R cap f q j k wr) (i : Nat) (hi : i < j) : wr.cell? ⟨R, 0 + i, none⟩ = some (.int .i64 (f i)) := by
  rw [Nat.zero_add, h.ints.cellAt i (by omega)]
  exact ivals_at f hi
theorem Two.ptrAt {W : World} {R cap : Nat} {f : Nat → Int} {q : Nat → Nat} {j k : Nat} {wr : World} (h : Two W R cap f q j k wr) (i : Nat) (hi : i < k) : wr.cell? ⟨R + 1, i, none⟩ = some (.pointer (some ⟨q i, 0, none⟩)) := by
  rw [h.ptrs.cellAt i (by omega)]
  exact pvals_at q hi
theorem Two.part {W : World} {R cap : Nat} {f : Nat → Int} {q : Nat → Nat} {j k : Nat} {wr : World} (h : Two W R cap f q j k wr) {b : Nat} {y : Int} (hp : IsPart W b y) (hR : b < R) : IsPart wr b y :=
  hp.of (h.below.block b hR)
theorem Two.drewN {W : World} {R cap : Nat} {f : Nat → Int} {q : Nat → Nat} {j k : Nat} {wr : World} (h : Two W R cap f q j k wr) (n : Nat) : Two W R cap f q j k (wr.drewN n) :=
  ⟨below_drewN h.below n, h.ints, h.ptrs⟩
/-- Each of the grown parts is a partition with its number. -/
theorem grown_part {w2 : World} {B k t pb : Nat} {z : Nat → Int} {x : Int} (g2 : ∀ i, i < k → IsPart w2 (B + 1 + 3 * i + 1) (z i)) (g3 : IsPart w2 pb x) (ht : t ≤ k) (i : Nat) (hi : i < k + 1) : IsPart w2 (gq B pb t i) (gz z x t i) := by
  by_cases c1 : i < t
  · rw [gq_lo c1, gz_lo c1]; exact g2 i (by omega)
  · by_cases c2 : i = t
    · subst c2; rw [gq_at, gz_at]; exact g3
    · obtain ⟨m, rfl⟩ : ∃ m, i = m + 1 := ⟨i - 1, by omega⟩
      rw [gq_hi (by omega), gz_hi (by omega)]; exact g2 m (by omega)

theorem make_ints0 (c : Nat) (C : Int) (hC : C = (c : Int)) (h : c ≤ 70000) (w : World) : (Instr.makeSlice 36 (.int .i64 0) (.int .i64 C)).run Try.prog w =
    .ok (.slice (some ⟨w.heap.size, 0, none⟩) 0 c) (w.alloc (.cells (madeCells #[.int .i64 0] c) 3)) := by
  subst hC
  obtain ⟨i0, hi, hz0, hz1, hz2⟩ := info_parts info3
  have := run_make (P := Try.prog) w 36 3 i0 (.int .i64 0) Try.underlying36 hi hz0 .i64 .i64 0 c (by omega) (by omega) (by rw [hz2]; omega) (by omega)
  simpa [hz1, Value.cells] using this
theorem make_ptrs0 (c : Nat) (C : Int) (hC : C = (c : Int)) (h : c ≤ 70000) (w : World) : (Instr.makeSlice 39 (.int .i64 0) (.int .i64 C)).run Try.prog w =
    .ok (.slice (some ⟨w.heap.size, 0, none⟩) 0 c) (w.alloc (.cells (madeCells #[.pointer none] c) 41)) := by
  subst hC
  obtain ⟨i0, hi, hz0, hz1, hz2⟩ := info_parts info41
  have := run_make (P := Try.prog) w 39 41 i0 (.pointer none) Try.underlying39 hi hz0 .i64 .i64 0 c (by omega) (by omega) (by rw [hz2]; omega) (by omega)
  simpa [hz1, Value.cells] using this
end Go.Proofs.Qxb6612537a
