import Derived.Test.Qxb6612812aStageB
namespace Go.Proofs.Qxb6612812a
open Go.RowKit

theorem Due.move {W : World} {bb sb : Nat} {R fn fs dn ds n s : Int} {w : World} (h : Due W bb sb R fn fs dn ds n s w) (hs : sb < W.heap.size) (hb : bb < W.heap.size) :
    Due W bb sb R fn fs dn ds fn fs (((w.setCell ⟨W.heap.size, 0, none⟩ (.int .u64 fn)).setCell ⟨W.heap.size, 1, none⟩ (.int .i64 fs)).setCell ⟨W.heap.size, 2, none⟩ (.pointer none)) := by
  have e1 := heap_setCell_same w W.heap.size 0 _ 49 (.int .u64 fn) h.t
  have e2 := heap_setCell_same _ W.heap.size 1 _ 49 (.int .i64 fs) e1
  have e3 := heap_setCell_same _ W.heap.size 2 _ 49 (.pointer none) e2
  have o : ∀ k, k ≠ W.heap.size → (((w.setCell ⟨W.heap.size, 0, none⟩ (.int .u64 fn)).setCell ⟨W.heap.size, 1, none⟩ (.int .i64 fs)).setCell ⟨W.heap.size, 2, none⟩ (.pointer none)).heap[k]? = w.heap[k]? := fun k hk => by
    rw [Below.heap_setCell _ ⟨W.heap.size, 2, none⟩ _ _ hk, Below.heap_setCell _ ⟨W.heap.size, 1, none⟩ _ _ hk, Below.heap_setCell _ ⟨W.heap.size, 0, none⟩ _ _ hk]
  exact ⟨((h.below.setCell (Nat.le_refl _) _).setCell (Nat.le_refl _) _).setCell (Nat.le_refl _) _, (o bb (by omega)).trans h.bw, (o sb (by omega)).trans h.st, e3, (o _ (by omega)).trans h.r⟩

set_option maxHeartbeats 2000000 in
theorem due_a (bb sb : Nat) (R fn fs dn ds n s n' s' N D : Int) (P Q : Nat) (W : World) (hb : W.heap[bb]? = some (.cells #[.int .i64 R] 26 (0, 0))) (hs : W.heap[sb]? = some (stg fn fs dn ds)) (hR : 0 < R)
    (hP : floatBits .mul .f64 (floatOfInt .f64 R) 4652007308841189376 = some P) (hQ : floatBits .quo .f64 (floatOfInt .f64 N) P = some Q)
    (hsp : Hid (∀ w, Calls Try.prog 29 #[.float .f64 Q, .int .i64 1000000000] w fun e w' => e = .returned (.int .i64 D) ∧ w = w'))
    (h0 : 0 ≤ n) (h1 : n < 1000000000) (k0 : 0 ≤ fn) (k1 : fn < 1000000000) (g0 : 0 ≤ n') (g1 : n' < 1000000000) (hle : s * 1000000000 + n < fs * 1000000000 + fn)
    (he : s' * 1000000000 + n' = fs * 1000000000 + fn + D) (hs1 : -30000000000 ≤ fs) (hs2 : fs ≤ 30000000000) (hD1 : 0 ≤ D) (hD2' : D ≤ 9223372036854775807) :
    Calls Try.prog 21 #[.pointer (some ⟨bb, 0, none⟩), .pointer (some ⟨sb, 0, none⟩), .agg #[.int .u64 n, .int .i64 s, .pointer none], .int .i64 N] W
      fun e w' => e = .returned (.agg #[.int .u64 n', .int .i64 s', .pointer none]) ∧ w'.heap[sb]? = some (stg fn fs n' s') ∧ W.grownBy w' (some sb) := by
  have HE : Hid (s' * 1000000000 + n' = fs * 1000000000 + fn + D) := he
  have HL : Hid (decide (s * 1000000000 + n < fs * 1000000000 + fn) = true) := decide_eq_true (by omega)
  clear he hle
  have rP := fun w => run_float_arith (P := Try.prog) w .mul 54 .f64 _ _ _ hP
  have rQ := fun w => run_float_arith (P := Try.prog) w .quo 54 .f64 _ _ _ hQ
  clear hP hQ
  have hD := Due.start (n := n) (s := s) hb hs
  have hlt : sb < W.heap.size := (Array.getElem?_eq_some_iff.1 hs).1
  have hltb : bb < W.heap.size := (Array.getElem?_eq_some_iff.1 hb).1
  clear hb hs
  obtain ⟨c1, c2, c3, c4, c5, c6, c7⟩ := hD.cells
  go_enter Try.func21, Try.ntmps21
  go_wp2_with fail
  generalize (W.alloc (.cells #[.int .u64 n, .int .i64 s, .pointer none] 49)).alloc (.cells #[.int .u64 0, .int .i64 0, .pointer none] 49) = w1 at hD c1 c2 c3 c4 c5 c6 c7 ⊢
  go_region_with (go_at_call 28; refine (after_agg fn fs n s _ k0 k1 h0 h1).mono ?_; rw [HL.out]; rintro e w2 ⟨rfl, hb2⟩)
  all_goals
    have hD2 := hD.drew.later hb2
    clear hb2 hD c1 c2 c3 c4 c5 c6 c7
    obtain ⟨c1, c2, c3, c4, c5, c6, c7⟩ := hD2.cells
    obtain ⟨d1, d2, d3, d4, d5, d6⟩ := hD2.cells2
    obtain ⟨f1, f2, f3⟩ := hD2.frozen
    go_wp2_with fail
    have hDm := hD2.move hlt hltb
    clear hD2 c1 c2 c3 c4 c5 c6 c7 d1 d2 d3 d4 d5 d6 f1 f2 f3
    generalize ((w2.setCell ⟨W.heap.size, 0, none⟩ (.int .u64 fn)).setCell ⟨W.heap.size, 1, none⟩ (.int .i64 fs)).setCell ⟨W.heap.size, 2, none⟩ (.pointer none) = wm at hDm ⊢
    obtain ⟨c1, c2, c3, c4, c5, c6, c7⟩ := hDm.cells
    obtain ⟨d1, d2, d3, d4, d5, d6⟩ := hDm.cells2
    obtain ⟨f1, f2, f3⟩ := hDm.frozen
    go_region_with (first
      | (go_at_call 29; refine (hsp.out _).mono ?_; rintro e w3 ⟨rfl, rfl⟩)
      | (go_at_call 26; refine (add_agg fn fs D n' s' _ k0 k1 g0 g1 HE.out hs1 hs2 (by omega) hD2').mono ?_; rintro e w3 ⟨rfl, hb3⟩; have hD3 := hDm.drew.later hb3; obtain ⟨c1', c2', c3', c4', c5', c6', c7'⟩ := hD3.cells; obtain ⟨d1', d2', d3', d4', d5', d6'⟩ := hD3.cells2; obtain ⟨f1', f2', f3'⟩ := hD3.frozen))
    all_goals
      go_wp2
      have hend := due_end hD3 hlt n' s'
      exact bodyPost_ret (v := .agg #[.int .u64 n', .int .i64 s', .pointer none]) (by simp [results, Try.results21, go_sem, d4', d5', d6']) rfl ⟨rfl, hend.1, hend.2⟩
end Go.Proofs.Qxb6612812a
