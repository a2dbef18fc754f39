import Derived.Test.Qxb6612812aStageB
namespace Go.Proofs.Qxb6612812a
open Go.RowKit

set_option maxHeartbeats 2000000 in
theorem due_b (bb sb : Nat) (R fn fs dn ds n s n' s' N D : Int) (P Q : Nat) (W : World) (hb : W.heap[bb]? = some (.cells #[.int .i64 R] 26 (0, 0))) (hs : W.heap[sb]? = some (stg fn fs dn ds)) (hR : 0 < R)
    (hP : floatBits .mul .f64 (floatOfInt .f64 R) 4652007308841189376 = some P) (hQ : floatBits .quo .f64 (floatOfInt .f64 N) P = some Q)
    (hsp : Hid (∀ w, Calls Try.prog 29 #[.float .f64 Q, .int .i64 1000000000] w fun e w' => e = .returned (.int .i64 D) ∧ w = w'))
    (h0 : 0 ≤ n) (h1 : n < 1000000000) (k0 : 0 ≤ fn) (k1 : fn < 1000000000) (g0 : 0 ≤ n') (g1 : n' < 1000000000) (hle : fs * 1000000000 + fn ≤ s * 1000000000 + n)
    (he : s' * 1000000000 + n' = s * 1000000000 + n + D) (hs1 : -30000000000 ≤ s) (hs2 : s ≤ 30000000000) (hD1 : 0 ≤ D) (hD2' : D ≤ 9223372036854775807) :
    Calls Try.prog 21 #[.pointer (some ⟨bb, 0, none⟩), .pointer (some ⟨sb, 0, none⟩), .agg #[.int .u64 n, .int .i64 s, .pointer none], .int .i64 N] W
      fun e w' => e = .returned (.agg #[.int .u64 n', .int .i64 s', .pointer none]) ∧ w'.heap[sb]? = some (stg fn fs n' s') ∧ W.grownBy w' (some sb) := by
  have HE : Hid (s' * 1000000000 + n' = s * 1000000000 + n + D) := he
  have HL : Hid (decide (s * 1000000000 + n < fs * 1000000000 + fn) = false) := decide_eq_false (by omega)
  clear he hle
  have rP := fun w => run_float_arith (P := Try.prog) w .mul 54 .f64 _ _ _ hP
  have rQ := fun w => run_float_arith (P := Try.prog) w .quo 54 .f64 _ _ _ hQ
  clear hP hQ
  have hD := Due.start (n := n) (s := s) hb hs
  have hlt : sb < W.heap.size := (Array.getElem?_eq_some_iff.1 hs).1
  clear hb hs
  obtain ⟨c1, c2, c3, c4, c5, c6, c7⟩ := hD.cells
  go_enter Try.func21, Try.ntmps21
  go_wp2_with fail
  generalize (W.alloc (.cells #[.int .u64 n, .int .i64 s, .pointer none] 49)).alloc (.cells #[.int .u64 0, .int .i64 0, .pointer none] 49) = w1 at hD c1 c2 c3 c4 c5 c6 c7 ⊢
  go_region_with (go_at_call 28; refine (after_agg fn fs n s _ k0 k1 h0 h1).mono ?_; rw [HL.out]; rintro e w2 ⟨rfl, hb2⟩)
  all_goals
    have hD2 := hD.drew.later hb2
    clear hb2 hD c1 c2 c3 c4 c5 c6 c7
    obtain ⟨c1, c2, c3, c4, c5, c6, c7⟩ := hD2.cells
    obtain ⟨d1, d2, d3, d4, d5, d6⟩ := hD2.cells2
    obtain ⟨f1, f2, f3⟩ := hD2.frozen
    go_wp2_with fail
    go_region_with (first
      | (go_at_call 29; refine (hsp.out _).mono ?_; rintro e w3 ⟨rfl, rfl⟩)
      | (go_at_call 26; refine (add_agg n s D n' s' _ h0 h1 g0 g1 HE.out hs1 hs2 (by omega) hD2').mono ?_; rintro e w3 ⟨rfl, hb3⟩; have hD3 := hD2.drew.later hb3; obtain ⟨c1', c2', c3', c4', c5', c6', c7'⟩ := hD3.cells; obtain ⟨d1', d2', d3', d4', d5', d6'⟩ := hD3.cells2; obtain ⟨f1', f2', f3'⟩ := hD3.frozen))
    all_goals
      go_wp2
      have hend := due_end hD3 hlt n' s'
      exact bodyPost_ret (v := .agg #[.int .u64 n', .int .i64 s', .pointer none]) (by simp [results, Try.results21, go_sem, d4', d5', d6']) rfl ⟨rfl, hend.1, hend.2⟩
end Go.Proofs.Qxb6612812a
