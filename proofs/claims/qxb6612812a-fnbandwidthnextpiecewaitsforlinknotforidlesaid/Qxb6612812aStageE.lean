import Derived.Test.Qxb6612812aStageC
import Derived.Test.Qxb6612812aStageD
namespace Go.Proofs.Qxb6612812a
open Go.RowKit

theorem grown_below {W w w' : World} {row : Option Nat} (h : W.grownBy w row) (hb : Below w.heap.size w w') : W.grownBy w' row :=
  ⟨hb.os.trans h.os, hb.tape.trans h.tape, hb.output.trans h.output, Nat.le_trans h.size hb.size, fun k hk hne => (hb.block k (Nat.lt_of_lt_of_le hk h.size)).trans (h.block k hk hne)⟩
theorem below_grown {W w w' : World} {row : Option Nat} (hb : Below W.heap.size W w) (h : w.grownBy w' row) : W.grownBy w' row :=
  ⟨h.os.trans hb.os, h.tape.trans hb.tape, h.output.trans hb.output, Nat.le_trans hb.size h.size, fun k hk hne => (h.block k (Nat.lt_of_lt_of_le hk hb.size) hne).trans (hb.block k hk)⟩
theorem below_keeps {W w : World} (hb : Below W.heap.size W w) {k : Nat} {o : Obj} (h : W.heap[k]? = some o) : w.heap[k]? = some o :=
  (hb.block k (Array.getElem?_eq_some_iff.1 h).1).trans h

set_option maxHeartbeats 1000000 in
theorem zdue_w (bb sb : Nat) (R fn fs dn ds n s n' s' dn' ds' N V : Int) (W : World) (hb : W.heap[bb]? = some (.cells #[.int .i64 R] 26 (0, 0))) (hs : W.heap[sb]? = some (stg fn fs dn ds))
    (h0 : 0 ≤ n) (h1 : n < 1000000000) (hT1 : -9223372036854775808 ≤ s * 1000000000 + n) (hT2 : s * 1000000000 + n ≤ 9223372036854775807)
    (hdue : Hid (∀ w : World, w.heap[bb]? = some (.cells #[.int .i64 R] 26 (0, 0)) → w.heap[sb]? = some (stg fn fs dn ds) →
      Calls Try.prog 21 #[.pointer (some ⟨bb, 0, none⟩), .pointer (some ⟨sb, 0, none⟩), .agg #[.int .u64 n, .int .i64 s, .pointer none], .int .i64 N] w
        fun e w' => e = .returned (.agg #[.int .u64 n', .int .i64 s', .pointer none]) ∧ w'.heap[sb]? = some (stg fn fs dn' ds') ∧ w.grownBy w' (some sb)))
    (hns : Hid (∀ w : World, Calls Try.prog 20 #[.agg #[.int .u64 n', .int .i64 s', .pointer none]] w fun e w' => e = .returned (.int .i64 V) ∧ Below w.heap.size w w')) :
    Calls Try.prog 7 #[.pointer (some ⟨bb, 0, none⟩), .pointer (some ⟨sb, 0, none⟩), .int .i64 (s * 1000000000 + n), .int .i64 N] W
      fun e w' => e = .returned (.int .i64 V) ∧ w'.heap[sb]? = some (stg fn fs dn' ds') ∧ W.grownBy w' (some sb) := by
  go_enter Try.func7, Try.ntmps7
  go_wp2_with fail
  refine (at_ n s _ h0 h1 hT1 hT2).mono ?_
  rintro e w1 ⟨rfl, hb1⟩
  have hbw := below_keeps hb1 hb
  have hst := below_keeps hb1 hs
  go_wp2_with fail
  refine (hdue.out _ hbw hst).mono ?_
  rintro e w2 ⟨rfl, hst2, hg2⟩
  go_wp2_with fail
  refine (hns.out _).mono ?_
  rintro e w3 ⟨rfl, hb3⟩
  have hst3 := below_keeps hb3 hst2
  go_wp2
  go_ret
  exact ⟨rfl, hst3, grown_below (below_grown hb1 hg2) hb3⟩

/-- The stage whose free time is F and whose due time is G. -/
def stT (F G : Int) : Obj := stg (F % 1000000000) (F / 1000000000) (G % 1000000000) (G / 1000000000)

theorem split (T : Int) : ∃ n s : Int, 0 ≤ n ∧ n < 1000000000 ∧ T = s * 1000000000 + n ∧ T % 1000000000 = n ∧ T / 1000000000 = s :=
  ⟨T % 1000000000, T / 1000000000, by omega, by omega, by omega, rfl, rfl⟩

/-- ZZbandwidthDue at a positive rate. -/
theorem zdue_pos (bb sb r N D P Q : Nat) (F G T : Int) (W : World) (hb : W.heap[bb]? = some (.cells #[.int .i64 (r : Int)] 26 (0, 0))) (hs : W.heap[sb]? = some (stT F G)) (hr : 0 < r)
    (hP : floatBits .mul .f64 (floatOfInt .f64 (r : Int)) 4652007308841189376 = some P) (hQ : floatBits .quo .f64 (floatOfInt .f64 (N : Int)) P = some Q)
    (hsp : ∀ w, Calls Try.prog 29 #[.float .f64 Q, .int .i64 1000000000] w fun e w' => e = .returned (.int .i64 (D : Int)) ∧ w = w')
    (hF1 : -4611686018427387904 ≤ F) (hF2 : F ≤ 6917529027641081856) (hT1 : -4611686018427387904 ≤ T) (hT2 : T ≤ 4611686018427387904) (hD : D ≤ 1152921504606846976) :
    Calls Try.prog 7 #[.pointer (some ⟨bb, 0, none⟩), .pointer (some ⟨sb, 0, none⟩), .int .i64 T, .int .i64 (N : Int)] W
      fun e w' => e = .returned (.int .i64 ((if T < F then F else T) + D)) ∧ w'.heap[sb]? = some (stT F ((if T < F then F else T) + D)) ∧ W.grownBy w' (some sb) := by
  obtain ⟨n, s, h0, h1, eT, _, _⟩ := split T
  obtain ⟨fn, fs, k0, k1, eF, eF1, eF2⟩ := split F
  generalize hM : (if T < F then F else T) + (D : Int) = M
  obtain ⟨n', s', g0, g1, eM, eM1, eM2⟩ := split M
  have hM1 : -4611686018427387904 ≤ M := by rw [← hM]; split <;> omega
  have hM2 : M ≤ 9223372036854775807 := by rw [← hM]; split <;> omega
  unfold stT at hs ⊢
  rw [eF1, eF2] at hs ⊢
  rw [eM1, eM2, eM, eT]
  refine zdue_w bb sb r fn fs _ _ n s n' s' n' s' N _ W hb hs h0 h1 (by omega) (by omega) ?_ ?_
  · intro w hbw hsw
    by_cases c : T < F
    · rw [if_pos c] at hM
      exact due_a bb sb r fn fs _ _ n s n' s' N D P Q w hbw hsw (by omega) hP hQ hsp h0 h1 k0 k1 g0 g1 (by omega) (by omega) (by omega) (by omega) (by omega) (by omega)
    · rw [if_neg c] at hM
      exact due_b bb sb r fn fs _ _ n s n' s' N D P Q w hbw hsw (by omega) hP hQ hsp h0 h1 k0 k1 g0 g1 (by omega) (by omega) (by omega) (by omega) (by omega) (by omega)
  · intro w
    exact ns_in n' s' w g0 g1 (by omega) (by omega) (by omega)

/-- ZZbandwidthDue at a rate of 0 or below. -/
theorem zdue_never (bb sb : Nat) (R N F G T : Int) (W : World) (hb : W.heap[bb]? = some (.cells #[.int .i64 R] 26 (0, 0))) (hs : W.heap[sb]? = some (stT F G)) (hR : R ≤ 0)
    (hT1 : -4611686018427387904 ≤ T) (hT2 : T ≤ 4611686018427387904) :
    Calls Try.prog 7 #[.pointer (some ⟨bb, 0, none⟩), .pointer (some ⟨sb, 0, none⟩), .int .i64 T, .int .i64 N] W
      fun e w' => e = .returned (.int .i64 (if 0 < T then 9223372036854775807 else T + 9223372036854775807)) ∧ w'.heap[sb]? = some (stT F G) ∧ W.grownBy w' (some sb) := by
  obtain ⟨n, s, h0, h1, eT, _, _⟩ := split T
  obtain ⟨n', s', g0, g1, eM, eM1, eM2⟩ := split (T + 9223372036854775807)
  unfold stT at hs ⊢
  generalize hV : (if 0 < T then 9223372036854775807 else T + 9223372036854775807) = V
  rw [eT]
  refine zdue_w bb sb R _ _ _ _ n s n' s' _ _ N V W hb hs h0 h1 (by omega) (by omega) ?_ ?_
  · intro w hbw hsw
    refine (due_never bb sb R _ _ _ _ n s n' s' N w hbw hsw hR h0 h1 g0 g1 (by omega) (by omega) (by omega)).mono ?_
    rintro e w' ⟨he, hbl⟩
    exact ⟨he, below_keeps hbl hsw, hbl.os, hbl.tape, hbl.output, hbl.size, fun k hk _ => hbl.block k hk⟩
  · intro w
    by_cases c : 0 < T
    · rw [if_pos c] at hV
      rw [← hV]
      exact ns_out n' s' w g0 g1 (by omega) (by omega) (by omega)
    · rw [if_neg c] at hV
      rw [show V = s' * 1000000000 + n' by omega]
      exact ns_in n' s' w g0 g1 (by omega) (by omega) (by omega)
end Go.Proofs.Qxb6612812a
