import Derived.Test.Qxb6612812aStageA
namespace Go.Proofs.Qxb6612812a
open Go.RowKit

theorem grown_set {W w : World} {row : Option Nat} (h : W.grownBy w row) (a : Addr) (u : Value) (ha : W.heap.size ≤ a.block ∨ some a.block = row) : W.grownBy (w.setCell a u) row := by
  have hb : Below a.block w (w.setCell a u) := (Below.refl _ _).setCell (Nat.le_refl _) u
  refine ⟨hb.os.trans h.os, hb.tape.trans h.tape, hb.output.trans h.output, Nat.le_trans h.size hb.size, fun k hk hne => ?_⟩
  rw [Below.heap_setCell w a u k (by rcases ha with ha | ha; · omega
                                     · intro e; exact hne (by rw [e, ha]))]
  exact h.block k hk hne

theorem due_end {W : World} {bb sb : Nat} {R fn fs dn ds n s : Int} {w : World} (h : Due W bb sb R fn fs dn ds n s w) (hlt : sb < W.heap.size) (n' s' : Int) :
    ((((((w.setCell ⟨sb, 7, none⟩ (.int .u64 n')).setCell ⟨sb, 8, none⟩ (.int .i64 s')).setCell ⟨sb, 9, none⟩ (.pointer none)).setCell ⟨W.heap.size + 1, 0, none⟩ (.int .u64 n')).setCell ⟨W.heap.size + 1, 1, none⟩ (.int .i64 s')).setCell ⟨W.heap.size + 1, 2, none⟩ (.pointer none)).heap[sb]? = some (stg fn fs n' s') ∧
    W.grownBy ((((((w.setCell ⟨sb, 7, none⟩ (.int .u64 n')).setCell ⟨sb, 8, none⟩ (.int .i64 s')).setCell ⟨sb, 9, none⟩ (.pointer none)).setCell ⟨W.heap.size + 1, 0, none⟩ (.int .u64 n')).setCell ⟨W.heap.size + 1, 1, none⟩ (.int .i64 s')).setCell ⟨W.heap.size + 1, 2, none⟩ (.pointer none)) (some sb) := by
  have g0 : W.grownBy w (some sb) := ⟨h.below.os, h.below.tape, h.below.output, h.below.size, fun k hk _ => h.below.block k hk⟩
  have g1 := grown_set g0 ⟨sb, 7, none⟩ (.int .u64 n') (.inr rfl)
  have g2 := grown_set g1 ⟨sb, 8, none⟩ (.int .i64 s') (.inr rfl)
  have g3 := grown_set g2 ⟨sb, 9, none⟩ (.pointer none) (.inr rfl)
  have g4 := grown_set g3 ⟨W.heap.size + 1, 0, none⟩ (.int .u64 n') (.inl (Nat.le_succ _))
  have g5 := grown_set g4 ⟨W.heap.size + 1, 1, none⟩ (.int .i64 s') (.inl (Nat.le_succ _))
  have g6 := grown_set g5 ⟨W.heap.size + 1, 2, none⟩ (.pointer none) (.inl (Nat.le_succ _))
  have e1 := heap_setCell_same w sb 7 _ 56 (.int .u64 n') h.st
  have e2 := heap_setCell_same _ sb 8 _ 56 (.int .i64 s') e1
  have e3 := heap_setCell_same _ sb 9 _ 56 (.pointer none) e2
  have hne : sb ≠ W.heap.size + 1 := by omega
  refine ⟨?_, g6⟩
  rw [Below.heap_setCell _ ⟨W.heap.size + 1, 2, none⟩ _ _ hne, Below.heap_setCell _ ⟨W.heap.size + 1, 1, none⟩ _ _ hne, Below.heap_setCell _ ⟨W.heap.size + 1, 0, none⟩ _ _ hne]
  exact e3

end Go.Proofs.Qxb6612812a
