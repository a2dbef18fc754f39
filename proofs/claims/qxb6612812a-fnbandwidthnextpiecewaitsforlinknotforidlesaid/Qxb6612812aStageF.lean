import Derived.Test.Qxb6612812aStageE
namespace Go.Proofs.Qxb6612812a
open Go.RowKit

theorem st_cells {w : World} {sb : Nat} {n s m u : Int} (h : w.heap[sb]? = some (stg n s m u)) :
    w.cell? ⟨sb, 4, none⟩ = some (.int .u64 n) ∧ w.cell? ⟨sb, 5, none⟩ = some (.int .i64 s) ∧ w.cell? ⟨sb, 6, none⟩ = some (.pointer none) ∧
    w.cell? ⟨sb, 7, none⟩ = some (.int .u64 m) ∧ w.cell? ⟨sb, 8, none⟩ = some (.int .i64 u) ∧ w.cell? ⟨sb, 9, none⟩ = some (.pointer none) ∧ ∀ j, w.frozen? ⟨sb, j, none⟩ = false := by
  refine ⟨?_, ?_, ?_, ?_, ?_, ?_, fun j => frozen_of_row w _ j _ _ h⟩ <;> rw [cell_of_row w _ _ _ _ _ h] <;> rfl

theorem st_pass {W w : World} {sb : Nat} {n s m u : Int} (h : w.heap[sb]? = some (stg n s m u)) (hg : W.grownBy w (some sb)) :
    (((w.setCell ⟨sb, 4, none⟩ (.int .u64 m)).setCell ⟨sb, 5, none⟩ (.int .i64 u)).setCell ⟨sb, 6, none⟩ (.pointer none)).heap[sb]? = some (stg m u m u) ∧
    W.grownBy (((w.setCell ⟨sb, 4, none⟩ (.int .u64 m)).setCell ⟨sb, 5, none⟩ (.int .i64 u)).setCell ⟨sb, 6, none⟩ (.pointer none)) (some sb) := by
  have e1 := heap_setCell_same w sb 4 _ 56 (.int .u64 m) h
  have e2 := heap_setCell_same _ sb 5 _ 56 (.int .i64 u) e1
  have e3 := heap_setCell_same _ sb 6 _ 56 (.pointer none) e2
  exact ⟨e3, grown_set (grown_set (grown_set hg _ _ (.inr rfl)) _ _ (.inr rfl)) _ _ (.inr rfl)⟩

set_option maxHeartbeats 1000000 in
theorem passed_w (sb : Nat) (n s m u a b N : Int) (bp : Value) (W : World) (hs : W.heap[sb]? = some (stg n s m u)) :
    Calls Try.prog 22 #[bp, .pointer (some ⟨sb, 0, none⟩), .agg #[.int .u64 a, .int .i64 b, .pointer none], .int .i64 N] W
      fun e w' => e = .returned (.tuple #[]) ∧ w'.heap[sb]? = some (stg m u m u) ∧ W.grownBy w' (some sb) := by
  have hb0 : Below W.heap.size W (W.alloc (.cells #[.int .u64 a, .int .i64 b, .pointer none] 49)) := (Below.refl _ _).alloc (Nat.le_refl _) _
  have hs1 := below_keeps hb0 hs
  obtain ⟨c1, c2, c3, c4, c5, c6, f⟩ := st_cells hs1
  go_enter Try.func22, Try.ntmps22
  go_wp2
  go_end0
  have hp := st_pass (W := W) hs1 ⟨hb0.os, hb0.tape, hb0.output, hb0.size, fun k hk _ => hb0.block k hk⟩
  exact ⟨rfl, hp.1, hp.2⟩

set_option maxHeartbeats 1000000 in
theorem zpassed (bb sb : Nat) (F G T N : Int) (W : World) (hs : W.heap[sb]? = some (stT F G)) (hT1 : -9223372036854775808 ≤ T) (hT2 : T ≤ 9223372036854775807) :
    Calls Try.prog 8 #[.pointer (some ⟨bb, 0, none⟩), .pointer (some ⟨sb, 0, none⟩), .int .i64 T, .int .i64 N] W
      fun e w' => e = .returned (.tuple #[]) ∧ w'.heap[sb]? = some (stT G G) ∧ W.grownBy w' (some sb) := by
  obtain ⟨n, s, h0, h1, eT, _, _⟩ := split T
  subst eT
  unfold stT at hs ⊢
  generalize F % 1000000000 = fn at *
  generalize F / 1000000000 = fs at *
  generalize G % 1000000000 = gn at *
  generalize G / 1000000000 = gs at *
  go_enter Try.func8, Try.ntmps8
  go_wp2_with fail
  refine (at_ n s _ h0 h1 hT1 hT2).mono ?_
  rintro e w1 ⟨rfl, hb1⟩
  have hs1 := below_keeps hb1 hs
  go_wp2_with fail
  refine (passed_w sb fn fs gn gs n s N _ w1 hs1).mono ?_
  rintro e w2 ⟨rfl, hs2, hg2⟩
  go_wp2
  go_end0
  exact ⟨rfl, hs2, below_grown hb1 hg2⟩

set_option maxHeartbeats 1000000 in
theorem zfree_w (sb : Nat) (n s m u : Int) (W : World) (hs : W.heap[sb]? = some (stg n s m u)) (h0 : 0 ≤ n) (h1 : n < 1000000000) (hs1 : -4611686019 ≤ s) (hs2 : s ≤ 9223372036) (hT : s * 1000000000 + n ≤ 9223372036854775807) :
    Calls Try.prog 9 #[.pointer (some ⟨sb, 0, none⟩)] W fun e w' => e = .returned (.int .i64 (s * 1000000000 + n)) ∧ Below W.heap.size W w' := by
  obtain ⟨c1, c2, c3, c4, c5, c6, f⟩ := st_cells hs
  go_enter Try.func9, Try.ntmps9
  go_wp2_with fail
  refine (ns_in n s _ h0 h1 hs1 hs2 hT).mono ?_
  rintro e w1 ⟨rfl, hb1⟩
  go_wp2
  go_ret
  exact ⟨rfl, hb1⟩

theorem zfree (sb : Nat) (F G : Int) (W : World) (hs : W.heap[sb]? = some (stT F G)) (hF1 : -4611686018427387904 ≤ F) (hF2 : F ≤ 9223372036854775807) :
    Calls Try.prog 9 #[.pointer (some ⟨sb, 0, none⟩)] W fun e w' => e = .returned (.int .i64 F) ∧ Below W.heap.size W w' := by
  obtain ⟨n, s, h0, h1, eF, e1, e2⟩ := split F
  unfold stT at hs
  rw [e1, e2] at hs
  rw [eF]
  exact zfree_w sb n s _ _ W hs h0 h1 (by omega) (by omega) (by omega)

set_option maxHeartbeats 400000 in
theorem satadd (T : Int) (w : World) (hT1 : -4611686018427387904 ≤ T) (hT2 : T ≤ 4611686018427387904) :
    Calls Try.prog 10 #[.int .i64 T, .int .i64 9223372036854775807] w fun e w' => e = .returned (.int .i64 (if 0 < T then 9223372036854775807 else T + 9223372036854775807)) ∧ w = w' := by
  by_cases c : 0 < T
  · rw [if_pos c]
    go_enter Try.func10, Try.ntmps10
    go_wp2
    go_ret
    exact ⟨rfl, rfl⟩
  · rw [if_neg c]
    go_enter Try.func10, Try.ntmps10
    go_wp2
    go_ret
    exact ⟨rfl, rfl⟩

set_option maxHeartbeats 400000 in
theorem transmit (n r : Nat) (w : World) (hn : n ≤ 1099511627776) (hr : 0 < r) (hr2 : r ≤ 9223372036854775807) :
    Calls Try.prog 11 #[.int .i64 (n : Int), .int .i64 (r : Int)] w fun e w' => e = .returned (.int .i64 ((n * 1000000 / r : Nat) : Int)) ∧ w = w' := by
  have hne : ((r : Int) == 0) = false := by simp; omega
  have hrp : 0 < (r : Int) := by omega
  go_enter Try.func11, Try.ntmps11
  go_wp2
  go_ret
  exact ⟨rfl, rfl⟩

set_option maxHeartbeats 400000 in
theorem tol (x : Int) (w : World) (h0 : 0 ≤ x) (h1 : x ≤ 2000000000000000000) :
    Calls Try.prog 13 #[.int .i64 x] w fun e w' => e = .returned (.int .i64 (2 + x / 281474976710656)) ∧ w = w' := by
  go_enter Try.func13, Try.ntmps13
  go_wp2
  go_ret
  exact ⟨rfl, rfl⟩

set_option maxHeartbeats 400000 in
theorem nearw (g a t : Int) (w : World) (ha1 : -5000000000000000000 ≤ a) (ha2 : a ≤ 8000000000000000000) (ht0 : 0 ≤ t) (ht : t ≤ 1000000) (h1 : a - t ≤ g) (h2 : g ≤ a + t) :
    Calls Try.prog 12 #[.int .i64 g, .int .i64 a, .int .i64 t] w fun e w' => e = .returned (.bool true) ∧ w = w' := by
  have d1 : decide (a - t ≤ g) = true := decide_eq_true h1
  have d2 : decide (g ≤ a + t) = true := decide_eq_true h2
  go_enter Try.func12, Try.ntmps12
  go_wp2
  go_ret
  exact ⟨rfl, rfl⟩
end Go.Proofs.Qxb6612812a
