import Derived.Test.Qxb6612812aFloatE
import Derived.Deep.RegionWith
namespace Go.Proofs.Qxb6612812a
open Go.RowKit

/-- A stage: its free time (n, s) and its due time (m, u); all else as it was made. -/
def stc (n s m u : Int) : Array Value := #[.nilIface, .pointer none, .float .f64 0, .float .f64 0, .int .u64 n, .int .i64 s, .pointer none, .int .u64 m, .int .i64 u, .pointer none, .bool false, .int .u64 0, .int .i64 0, .pointer none, .int .i64 0]
def stg (n s m u : Int) : Obj := .cells (stc n s m u) 56 (0, 0)

set_option maxHeartbeats 1000000 in
theorem newstage (n s : Int) (w : World) (h0 : 0 ≤ n) (h1 : n < 1000000000) (hT1 : -9223372036854775808 ≤ s * 1000000000 + n) (hT2 : s * 1000000000 + n ≤ 9223372036854775807) :
    Calls Try.prog 6 #[.int .i64 (s * 1000000000 + n), .int .i64 0] w fun e w' => ∃ B, e = .returned (.pointer (some ⟨B, 0, none⟩)) ∧ w.heap.size ≤ B ∧ w'.heap[B]? = some (stg n s 0 0) ∧ Below w.heap.size w w' := by
  go_enter Try.func6, Try.ntmps6
  go_wp2_with fail
  refine (at_ n s _ h0 h1 hT1 hT2).mono ?_
  rintro e w1 ⟨rfl, hb1⟩
  go_wp2_with fail
  refine (at_ 0 0 _ (by omega) (by omega) (by omega) (by omega)).mono ?_
  rintro e w2 ⟨rfl, hb2⟩
  have hb := hb1.trans (hb2.mono hb1.size)
  go_wp2
  go_ret
  exact ⟨w2.heap.size, rfl, hb.size, heap_alloc_new w2 _, hb.alloc hb.size _⟩

theorem tv_of {n s : Int} (h0 : 0 ≤ n) (h1 : n < 1000000000) : tv (s * 1000000000 + n) = .agg #[.int .u64 n, .int .i64 s, .pointer none] := by
  unfold tv tmv
  rw [show (s * 1000000000 + n) % 1000000000 = n by omega, show (s * 1000000000 + n) / 1000000000 = s by omega]

theorem after_agg (n s m u : Int) (w : World) (h0 : 0 ≤ n) (h1 : n < 1000000000) (g0 : 0 ≤ m) (g1 : m < 1000000000) :
    Calls Try.prog 28 #[.agg #[.int .u64 n, .int .i64 s, .pointer none], .agg #[.int .u64 m, .int .i64 u, .pointer none]] w fun e w' => e = .returned (.bool (decide (u * 1000000000 + m < s * 1000000000 + n))) ∧ Below w.heap.size w w' := by
  have h := after (s * 1000000000 + n) (u * 1000000000 + m) w
  rwa [tv_of h0 h1, tv_of g0 g1] at h

theorem add_agg (n s d n' s' : Int) (w : World) (h0 : 0 ≤ n) (h1 : n < 1000000000) (g0 : 0 ≤ n') (g1 : n' < 1000000000) (he : s' * 1000000000 + n' = s * 1000000000 + n + d)
    (hs1 : -30000000000 ≤ s) (hs2 : s ≤ 30000000000) (hd1 : -9223372036854775808 ≤ d) (hd2 : d ≤ 9223372036854775807) :
    Calls Try.prog 26 #[.agg #[.int .u64 n, .int .i64 s, .pointer none], .int .i64 d] w fun e w' => e = .returned (.agg #[.int .u64 n', .int .i64 s', .pointer none]) ∧ Below w.heap.size w w' := by
  have h := add (s * 1000000000 + n) d w (by omega) (by omega) hd1 hd2
  rwa [tv_of h0 h1, ← he, tv_of g0 g1] at h

/-- The world while 'due' runs: W is the world at the call; block W.heap.size is the parameter t, the next the result. -/
structure Due (W : World) (bb sb : Nat) (R fn fs dn ds n s : Int) (w : World) : Prop where
  below : Below W.heap.size W w
  bw : w.heap[bb]? = some (.cells #[.int .i64 R] 26 (0, 0))
  st : w.heap[sb]? = some (stg fn fs dn ds)
  t : w.heap[W.heap.size]? = some (.cells #[.int .u64 n, .int .i64 s, .pointer none] 49 (0, 0))
  r : w.heap[W.heap.size + 1]? = some (.cells #[.int .u64 0, .int .i64 0, .pointer none] 49 (0, 0))

theorem Due.size {W : World} {bb sb : Nat} {R fn fs dn ds n s : Int} {w : World} (h : Due W bb sb R fn fs dn ds n s w) : W.heap.size + 1 < w.heap.size := (Array.getElem?_eq_some_iff.1 h.r).1

theorem Due.start {W : World} {bb sb : Nat} {R fn fs dn ds n s : Int} (hb : W.heap[bb]? = some (.cells #[.int .i64 R] 26 (0, 0))) (hs : W.heap[sb]? = some (stg fn fs dn ds)) :
    Due W bb sb R fn fs dn ds n s ((W.alloc (.cells #[.int .u64 n, .int .i64 s, .pointer none] 49)).alloc (.cells #[.int .u64 0, .int .i64 0, .pointer none] 49)) := by
  have l1 := (Array.getElem?_eq_some_iff.1 hb).1
  have l2 := (Array.getElem?_eq_some_iff.1 hs).1
  refine ⟨below2 _ _ _, ?_, ?_, ?_, ?_⟩
  · rw [Below.heap_alloc _ _ _ (by simp; omega), Below.heap_alloc _ _ _ l1]; exact hb
  · rw [Below.heap_alloc _ _ _ (by simp; omega), Below.heap_alloc _ _ _ l2]; exact hs
  · rw [Below.heap_alloc _ _ _ (by simp)]; exact heap_alloc_new W _
  · have := heap_alloc_new (W.alloc (.cells #[.int .u64 n, .int .i64 s, .pointer none] 49)) (.cells #[.int .u64 0, .int .i64 0, .pointer none] 49)
    rwa [World.size_alloc] at this

theorem Due.later {W : World} {bb sb : Nat} {R fn fs dn ds n s : Int} {w w' : World} (h : Due W bb sb R fn fs dn ds n s w) (hb : Below w.heap.size w w') : Due W bb sb R fn fs dn ds n s w' := by
  have lt : ∀ {i : Nat} {o : Obj}, w.heap[i]? = some o → w'.heap[i]? = some o := fun {i o} e => (hb.block i (Array.getElem?_eq_some_iff.1 e).1).trans e
  exact ⟨h.below.trans (hb.mono h.below.size), lt h.bw, lt h.st, lt h.t, lt h.r⟩

theorem Due.drew {W : World} {bb sb : Nat} {R fn fs dn ds n s : Int} {w : World} (h : Due W bb sb R fn fs dn ds n s w) : Due W bb sb R fn fs dn ds n s w.drew := ⟨h.below.drew, h.bw, h.st, h.t, h.r⟩

/-- All that the walk of 'due' reads. -/
theorem Due.cells {W : World} {bb sb : Nat} {R fn fs dn ds n s : Int} {w : World} (h : Due W bb sb R fn fs dn ds n s w) :
    w.cell? ⟨bb, 0, none⟩ = some (.int .i64 R) ∧ w.cell? ⟨sb, 4, none⟩ = some (.int .u64 fn) ∧ w.cell? ⟨sb, 5, none⟩ = some (.int .i64 fs) ∧ w.cell? ⟨sb, 6, none⟩ = some (.pointer none) ∧
    w.cell? ⟨W.heap.size, 0, none⟩ = some (.int .u64 n) ∧ w.cell? ⟨W.heap.size, 1, none⟩ = some (.int .i64 s) ∧ w.cell? ⟨W.heap.size, 2, none⟩ = some (.pointer none) := by
  refine ⟨?_, ?_, ?_, ?_, ?_, ?_, ?_⟩
  · rw [cell_of_row w _ _ _ _ _ h.bw]; rfl
  · rw [cell_of_row w _ _ _ _ _ h.st]; rfl
  · rw [cell_of_row w _ _ _ _ _ h.st]; rfl
  · rw [cell_of_row w _ _ _ _ _ h.st]; rfl
  · rw [cell_of_row w _ _ _ _ _ h.t]; rfl
  · rw [cell_of_row w _ _ _ _ _ h.t]; rfl
  · rw [cell_of_row w _ _ _ _ _ h.t]; rfl
theorem Due.cells2 {W : World} {bb sb : Nat} {R fn fs dn ds n s : Int} {w : World} (h : Due W bb sb R fn fs dn ds n s w) :
    w.cell? ⟨sb, 7, none⟩ = some (.int .u64 dn) ∧ w.cell? ⟨sb, 8, none⟩ = some (.int .i64 ds) ∧ w.cell? ⟨sb, 9, none⟩ = some (.pointer none) ∧
    w.cell? ⟨W.heap.size + 1, 0, none⟩ = some (.int .u64 0) ∧ w.cell? ⟨W.heap.size + 1, 1, none⟩ = some (.int .i64 0) ∧ w.cell? ⟨W.heap.size + 1, 2, none⟩ = some (.pointer none) := by
  refine ⟨?_, ?_, ?_, ?_, ?_, ?_⟩
  · rw [cell_of_row w _ _ _ _ _ h.st]; rfl
  · rw [cell_of_row w _ _ _ _ _ h.st]; rfl
  · rw [cell_of_row w _ _ _ _ _ h.st]; rfl
  · rw [cell_of_row w _ _ _ _ _ h.r]; rfl
  · rw [cell_of_row w _ _ _ _ _ h.r]; rfl
  · rw [cell_of_row w _ _ _ _ _ h.r]; rfl
theorem Due.frozen {W : World} {bb sb : Nat} {R fn fs dn ds n s : Int} {w : World} (h : Due W bb sb R fn fs dn ds n s w) :
    (∀ j, w.frozen? ⟨sb, j, none⟩ = false) ∧ (∀ j, w.frozen? ⟨W.heap.size, j, none⟩ = false) ∧ (∀ j, w.frozen? ⟨W.heap.size + 1, j, none⟩ = false) :=
  ⟨fun j => frozen_of_row w _ j _ _ h.st, fun j => frozen_of_row w _ j _ _ h.t, fun j => frozen_of_row w _ j _ _ h.r⟩

set_option maxHeartbeats 1000000 in
theorem due_never (bb sb : Nat) (R fn fs dn ds n s n' s' N : Int) (W : World) (hb : W.heap[bb]? = some (.cells #[.int .i64 R] 26 (0, 0))) (hs : W.heap[sb]? = some (stg fn fs dn ds)) (hR : R ≤ 0)
    (h0 : 0 ≤ n) (h1 : n < 1000000000) (g0 : 0 ≤ n') (g1 : n' < 1000000000) (he : s' * 1000000000 + n' = s * 1000000000 + n + 9223372036854775807) (hs1 : -30000000000 ≤ s) (hs2 : s ≤ 30000000000) :
    Calls Try.prog 21 #[.pointer (some ⟨bb, 0, none⟩), .pointer (some ⟨sb, 0, none⟩), .agg #[.int .u64 n, .int .i64 s, .pointer none], .int .i64 N] W
      fun e w' => e = .returned (.agg #[.int .u64 n', .int .i64 s', .pointer none]) ∧ Below W.heap.size W w' := by
  have HE : Hid (s' * 1000000000 + n' = s * 1000000000 + n + 9223372036854775807) := he
  clear he
  have hD := Due.start (n := n) (s := s) hb hs
  obtain ⟨c1, c2, c3, c4, c5, c6, c7⟩ := hD.cells
  go_enter Try.func21, Try.ntmps21
  go_wp2_with fail
  refine (add_agg n s 9223372036854775807 n' s' _ h0 h1 g0 g1 HE.out hs1 hs2 (by omega) (by omega)).mono ?_
  rintro e w1 ⟨rfl, hb1⟩
  have hD1 := hD.later hb1
  obtain ⟨f1, f2, f3⟩ := hD1.frozen
  obtain ⟨d1, d2, d3, d4, d5, d6⟩ := hD1.cells2
  clear c1 c2 c3 c4 c5 c6 c7 hD
  go_wp2
  refine bodyPost_ret (v := .agg #[.int .u64 n', .int .i64 s', .pointer none]) (by simp [results, Try.results21, go_sem, d4, d5, d6]) rfl ⟨rfl, ?_⟩
  exact ((hD1.below.setCell (by simp) _).setCell (by simp) _).setCell (by simp) _
end Go.Proofs.Qxb6612812a
