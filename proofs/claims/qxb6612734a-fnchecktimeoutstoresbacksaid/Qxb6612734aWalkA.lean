import Derived.Test.Qxb6612734aRows
import Derived.WalkKit
import Derived.WalkSpells
import Derived.WalkLawsBesides
import Derived.Laws.LoneSync
import Derived.RegionCalls
namespace Go.Proofs.Qxb6612734a
open Go.RowKit

theorem st32 {a : Addr} {u : Value} {w : World} (y : Int) (hc : w.cell? a = some u) (hz : w.frozen? a = false) :
    (callFunc 12 #[.pointer (some a), .int .u32 y]).run Try.prog w = .ok (.value (.tuple #[])) (w.setCell a (.int .u32 y)) :=
  run_call_store (P := Try.prog) Try.func12 (by kernel_rfl) (by kernel_rfl) (by kernel_rfl) (by kernel_rfl) (k := .u32) (y := y) hc hz
theorem st64 {a : Addr} {u : Value} {w : World} (y : Int) (hc : w.cell? a = some u) (hz : w.frozen? a = false) :
    (callFunc 14 #[.pointer (some a), .int .i64 y]).run Try.prog w = .ok (.value (.tuple #[])) (w.setCell a (.int .i64 y)) :=
  run_call_store (P := Try.prog) Try.func14 (by kernel_rfl) (by kernel_rfl) (by kernel_rfl) (by kernel_rfl) (k := .i64) (y := y) hc hz
theorem ld64 {a : Addr} {x : Int} {w : World} (hc : w.cell? a = some (.int .i64 x)) :
    (callFunc 16 #[.pointer (some a)]).run Try.prog w = .ok (.value (.int .i64 x)) w :=
  run_call_load (P := Try.prog) Try.func16 (by kernel_rfl) (by kernel_rfl) (by kernel_rfl) .i64 (by kernel_rfl) hc

set_option maxHeartbeats 400000 in
theorem bstore (b off : Nat) (u : Value) (w : World) (hc : w.cell? ⟨b, off, none⟩ = some u) (hz : w.frozen? ⟨b, off, none⟩ = false) :
    Calls Try.prog 8 #[.pointer (some ⟨b, off, none⟩), .bool false] w fun e w' => e = .returned (.tuple #[]) ∧ w' = (w.setCell ⟨b, off, none⟩ (.int .u32 0)).drew := by
  have hs := st32 (w := w.drew) 0 hc hz
  go_enter Try.func8, Try.ntmps8
  go_wp2
  go_region_calls
  go_end0
  exact ⟨rfl, rfl⟩

set_option maxHeartbeats 400000 in
theorem istore (b off : Nat) (u : Value) (y : Int) (w : World) (hc : w.cell? ⟨b, off, none⟩ = some u) (hz : w.frozen? ⟨b, off, none⟩ = false) :
    Calls Try.prog 9 #[.pointer (some ⟨b, off, none⟩), .int .i64 y] w fun e w' => e = .returned (.tuple #[]) ∧ w' = w.setCell ⟨b, off, none⟩ (.int .i64 y) := by
  have hs := st64 y hc hz
  go_enter Try.func9, Try.ntmps9
  go_wp2
  go_end0
  exact ⟨rfl, rfl⟩

set_option maxHeartbeats 400000 in
theorem iload (b off : Nat) (y : Int) (w : World) (hc : w.cell? ⟨b, off, none⟩ = some (.int .i64 y)) :
    Calls Try.prog 15 #[.pointer (some ⟨b, off, none⟩)] w fun e w' => e = .returned (.int .i64 y) ∧ w = w' := by
  have hs := ld64 hc
  go_enter Try.func15, Try.ntmps15
  go_wp2
  go_ret
  exact ⟨rfl, rfl⟩

/-- Since W a Health has been made at the first new block; its timeout stands at cell 5. -/
structure IsH (W w : World) (t : Int) : Prop where
  grown : Grown W w
  block : ∃ cs, w.heap[W.heap.size]? = some (.cells cs 47 (0, 0)) ∧ cs.size = 10 ∧ cs[5]? = some (.int .i64 t)

theorem IsH.cell {W w : World} {t : Int} (h : IsH W w t) (j : Nat) (hj : j < 10) : ∃ u, w.cell? ⟨W.heap.size, j, none⟩ = some u := by
  obtain ⟨cs, h1, h2, h3⟩ := h.block
  rw [cell_of_row w _ j cs 47 (0, 0) h1]
  exact ⟨_, Array.getElem?_eq_getElem (by omega)⟩
theorem IsH.timeout {W w : World} {t : Int} (h : IsH W w t) : w.cell? ⟨W.heap.size, 5, none⟩ = some (.int .i64 t) := by
  obtain ⟨cs, h1, h2, h3⟩ := h.block
  rw [cell_of_row w _ 5 cs 47 (0, 0) h1]
  exact h3
theorem IsH.frozen {W w : World} {t : Int} (h : IsH W w t) (j : Nat) : w.frozen? ⟨W.heap.size, j, none⟩ = false := by
  obtain ⟨cs, h1, h2, h3⟩ := h.block
  exact frozen_of_row w _ j cs 47 h1
theorem IsH.drew {W w : World} {t : Int} (h : IsH W w t) : IsH W w.drew t := ⟨h.grown.drew, h.block⟩
theorem IsH.other {W w : World} {t : Int} (h : IsH W w t) (j : Nat) (hj : j ≠ 5) (u : Value) : IsH W (w.setCell ⟨W.heap.size, j, none⟩ u) t := by
  obtain ⟨cs, h1, h2, h3⟩ := h.block
  refine ⟨h.grown.setCell (Nat.le_refl _) u, _, heap_setCell_same w _ j cs 47 u h1, by simpa using h2, ?_⟩
  rw [Array.getElem?_setIfInBounds_ne hj]
  exact h3
theorem IsH.set {W w : World} {t : Int} (h : IsH W w t) (y : Int) : IsH W (w.setCell ⟨W.heap.size, 5, none⟩ (.int .i64 y)) y := by
  obtain ⟨cs, h1, h2, h3⟩ := h.block
  refine ⟨h.grown.setCell (Nat.le_refl _) _, _, heap_setCell_same w _ 5 cs 47 _ h1, by simpa using h2, ?_⟩
  rw [Array.getElem?_setIfInBounds_self_of_lt (by omega)]
theorem isH_new (w : World) (c0 c1 c2 c3 c4 c6 c7 c8 c9 : Value) (t : Int) : IsH w (w.alloc (.cells #[c0, c1, c2, c3, c4, .int .i64 t, c6, c7, c8, c9] 47)) t :=
  ⟨(Grown.refl _).alloc _ _, _, heap_alloc_new w _, rfl, rfl⟩

set_option maxHeartbeats 400000 in
theorem newh (t : Int) (w : World) :
    Calls Try.prog 4 #[.bool false, .bool false, .int .i64 t] w fun e w' => e = .returned (.pointer (some ⟨w.heap.size, 0, none⟩)) ∧ IsH w w' t := by
  go_enter Try.func4, Try.ntmps4
  go_wp2_with fail
  have h0 := isH_new w (.int .u32 0) (.int .u32 0) (.int .u32 0) (.int .u32 0) (.int .u32 0) (.int .i64 0) (.pointer none) (.int .i32 0) (.int .u32 0) 0
  generalize (w.alloc (.cells #[.int .u32 0, .int .u32 0, .int .u32 0, .int .u32 0, .int .u32 0, .int .i64 0, .int .i64 0, .pointer none, .int .i32 0, .int .u32 0] 47)) = w0 at h0 ⊢
  obtain ⟨u0, hu0⟩ := h0.cell 0 (by omega)
  refine (bstore _ _ u0 _ hu0 (h0.frozen 0)).mono ?_
  rintro e w1 ⟨rfl, hw1⟩
  have h1 : IsH w w1 0 := by rw [hw1]; exact (h0.other 0 (by omega) _).drew
  clear hw1 hu0 h0
  go_wp2_with fail
  obtain ⟨u1, hu1⟩ := h1.cell 2 (by omega)
  refine (bstore _ _ u1 _ hu1 (h1.frozen 2)).mono ?_
  rintro e w2 ⟨rfl, hw2⟩
  have h2 : IsH w w2 0 := by rw [hw2]; exact (h1.other 2 (by omega) _).drew
  clear hw2 hu1 h1
  go_wp2_with fail
  refine (istore _ _ _ t _ h2.timeout (h2.frozen 5)).mono ?_
  rintro e w3 ⟨rfl, hw3⟩
  have h3 : IsH w w3 t := by rw [hw3]; exact h2.set t
  clear hw3 h2
  go_wp2
  go_ret
  exact ⟨rfl, h3⟩

/-- The timeout that is read: a positive one stands, any other is the default. -/
def tm (t : Int) : Int := if 0 < t then t else 500000000

set_option maxHeartbeats 400000 in
theorem check (t : Int) (W w : World) (h : IsH W w t) :
    Calls Try.prog 5 #[.pointer (some ⟨W.heap.size, 0, none⟩)] w fun e w' => e = .returned (.int .i64 (tm t)) ∧ w = w' := by
  by_cases ht : 0 < t
  · have hr : tm t = t := if_pos ht
    rw [hr]
    clear hr
    go_enter Try.func5, Try.ntmps5
    go_wp2_with (first | (go_at_call 10; go_in) | (go_at_call 15; refine (iload _ _ t _ h.timeout).mono ?_; rintro e w1 ⟨rfl, rfl⟩))
    go_ret
    exact ⟨rfl, rfl⟩
  · have hr : tm t = 500000000 := if_neg ht
    rw [hr]
    clear hr
    go_enter Try.func5, Try.ntmps5
    go_wp2_with (first | (go_at_call 10; go_in) | (go_at_call 15; refine (iload _ _ t _ h.timeout).mono ?_; rintro e w1 ⟨rfl, rfl⟩))
    go_ret
    exact ⟨rfl, rfl⟩

set_option maxHeartbeats 400000 in
theorem setc (t y : Int) (W w : World) (h : IsH W w t) :
    Calls Try.prog 6 #[.pointer (some ⟨W.heap.size, 0, none⟩), .int .i64 y] w fun e w' => e = .returned (.tuple #[]) ∧ IsH W w' y := by
  go_enter Try.func6, Try.ntmps6
  go_wp2_with (first | (go_at_call 11; go_in) | (go_at_call 9; refine (istore _ _ _ y _ h.timeout (h.frozen 5)).mono ?_; rintro e w1 ⟨rfl, hw1⟩; have h1 : IsH W w1 y := (by rw [hw1]; exact h.set y); clear hw1))
  go_end0
  go_wp2
  go_end0
  exact ⟨rfl, h1⟩

set_option maxHeartbeats 400000 in
theorem model (t : Int) (w : World) :
    Calls Try.prog 7 #[.int .i64 t] w fun e w' => e = .returned (.int .i64 (tm t)) ∧ w = w' := by
  by_cases ht : 0 < t
  · have hr : tm t = t := if_pos ht
    rw [hr]
    clear hr
    go_enter Try.func7, Try.ntmps7
    go_wp2
    go_ret
    exact ⟨rfl, rfl⟩
  · have hr : tm t = 500000000 := if_neg ht
    rw [hr]
    clear hr
    go_enter Try.func7, Try.ntmps7
    go_wp2
    go_ret
    exact ⟨rfl, rfl⟩
theorem tm_pos (t : Int) : 0 < tm t := by unfold tm; split <;> omega
theorem tm_tm (t : Int) : tm (tm t) = tm t := if_pos (tm_pos t)

set_option maxHeartbeats 400000 in
theorem law (t : Int) (w : World) :
    Calls Try.prog 3 #[.int .i64 t] w fun e w' => e = .returned (.bool true) ∧ Grown w w' := by
  have hpos := tm_pos t
  have HT : Hid (tm (tm t) = tm t) := tm_tm t
  go_enter Try.func3, Try.ntmps3
  go_wp2_with fail
  refine (newh t _).mono ?_
  rintro e w1 ⟨rfl, h1⟩
  go_wp2_with fail
  refine (check t w _ h1).mono ?_
  rintro e w2 ⟨rfl, rfl⟩
  go_wp2_with fail
  refine (setc t (tm t) w _ h1).mono ?_
  rintro e w2 ⟨rfl, h2⟩
  clear h1
  go_wp2_with fail
  refine (check (tm t) w _ h2).mono ?_
  rintro e w3 ⟨rfl, rfl⟩
  rw [HT.out]
  go_wp2_with fail
  refine (model t _).mono ?_
  rintro e w3 ⟨rfl, rfl⟩
  go_wp2
  go_ret
  exact ⟨rfl, h2.grown⟩
end Go.Proofs.Qxb6612734a
