import Derived.Test.Qxb6612894aFmtWalkB
import Derived.Test.Qxb6612894aFmtWalkC
import Derived.Test.Qxb6612894aFmtWalkD
import Derived.Test.Qxb6612894aFmtErr
namespace Go.Proofs.Qxb6612894aFmt
open Go.RowKit Go.Extern.Stop Go.Stop Go.Extern

/-- MaxWorker answers m at this layout, in whatever world it lies. -/
def MaxIs (lb fb wi : Nat) (nm : ByteArray) (b sh m : Int) : Prop :=
  ∀ w : World, IsLay w lb fb wi nm b sh → Calls Tryf.prog 5 #[.pointer (some ⟨lb, 0, none⟩)] w fun e w' => e = .returned (.int .i64 m) ∧ Below w.heap.size w w'

theorem answers_later {F : Interp} {w w' : World} {B : Nat} (hF : F.answers w.tape) (hb : Below B w w') : F.answers w'.tape := by rw [hb.tape]; exact hF

theorem pair_cells (w : World) (u v : Value) : (w.alloc (.cells #[u, v] 20)).cell? ⟨w.heap.size, 0, none⟩ = some u ∧ (w.alloc (.cells #[u, v] 20)).cell? ⟨w.heap.size, 1, none⟩ = some v := by
  constructor <;> rw [World.cell?_alloc_new] <;> rfl

set_option maxHeartbeats 1000000 in
theorem check_ok (lb fb wi : Nat) (nm : ByteArray) (b sh m x : Int) (w : World) (hL : IsLay w lb fb wi nm b sh) (hM : MaxIs lb fb wi nm b sh m) (hx0 : 0 ≤ x) (hx : x ≤ m) :
    Calls Tryf.prog 7 #[.pointer (some ⟨lb, 0, none⟩), .int .i64 x] w fun e w' => e = .returned .nilIface ∧ Below w.heap.size w w' := by
  go_enter Tryf.func7, Tryf.ntmps7
  go_wp2_with fail
  refine (hM _ hL).mono ?_
  rintro e w1 ⟨rfl, hb1⟩
  go_wp2
  go_ret
  exact ⟨rfl, hb1⟩

set_option maxHeartbeats 1000000 in
theorem check_low (F : Interp) (lb fb wi : Nat) (nm : ByteArray) (b sh m x : Int) (w : World) (hF : F.answers w.tape) (hL : IsLay w lb fb wi nm b sh) (hM : MaxIs lb fb wi nm b sh m) (hx0 : x < 0) :
    Calls Tryf.prog 7 #[.pointer (some ⟨lb, 0, none⟩), .int .i64 x] w fun e w' => ∃ a, e = .returned (.iface 43 (.pointer (some a))) ∧ Below w.heap.size w w' := by
  go_enter Tryf.func7, Tryf.ntmps7
  go_wp2_with fail
  refine (hM _ hL).mono ?_
  rintro e w1 ⟨rfl, hb1⟩
  have hF1 := answers_later hF hb1
  go_wp2_with fail
  have hp := pair_cells w1 (.iface 3 (.int .i64 x)) (.iface 3 (.int .i64 m))
  refine (errorf F x m w1.heap.size (w1.alloc (.cells #[.iface 3 (.int .i64 x), .iface 3 (.int .i64 m)] 20)) hF1 hp.1 hp.2).mono ?_
  rintro e w2 ⟨rfl, hb2⟩
  clear hp
  go_wp2
  go_ret
  have hb0 := hb1.alloc hb1.size (.cells #[.iface 3 (.int .i64 x), .iface 3 (.int .i64 m)] 20)
  exact ⟨_, rfl, hb0.trans (hb2.mono hb0.size)⟩

set_option maxHeartbeats 1000000 in
theorem check_high (F : Interp) (lb fb wi : Nat) (nm : ByteArray) (b sh m x : Int) (w : World) (hF : F.answers w.tape) (hL : IsLay w lb fb wi nm b sh) (hM : MaxIs lb fb wi nm b sh m) (hx0 : 0 ≤ x) (hx : m < x) :
    Calls Tryf.prog 7 #[.pointer (some ⟨lb, 0, none⟩), .int .i64 x] w fun e w' => ∃ a, e = .returned (.iface 43 (.pointer (some a))) ∧ Below w.heap.size w w' := by
  go_enter Tryf.func7, Tryf.ntmps7
  go_wp2_with fail
  refine (hM _ hL).mono ?_
  rintro e w1 ⟨rfl, hb1⟩
  have hL1 := hL.later hb1
  go_wp2_with fail
  refine (hM _ hL1).mono ?_
  rintro e w2 ⟨rfl, hb2⟩
  have hb12 := hb1.trans (hb2.mono hb1.size)
  have hF1 := answers_later hF hb12
  go_wp2_with fail
  have hp := pair_cells w2 (.iface 3 (.int .i64 x)) (.iface 3 (.int .i64 m))
  refine (errorf F x m w2.heap.size (w2.alloc (.cells #[.iface 3 (.int .i64 x), .iface 3 (.int .i64 m)] 20)) hF1 hp.1 hp.2).mono ?_
  rintro e w3 ⟨rfl, hb3⟩
  clear hp
  go_wp2
  go_ret
  have hb0 := hb12.alloc hb12.size (.cells #[.iface 3 (.int .i64 x), .iface 3 (.int .i64 m)] 20)
  exact ⟨_, rfl, hb0.trans (hb3.mono hb0.size)⟩

theorem check_no (F : Interp) (lb fb wi : Nat) (nm : ByteArray) (b sh m x : Int) (w : World) (hF : F.answers w.tape) (hL : IsLay w lb fb wi nm b sh) (hM : MaxIs lb fb wi nm b sh m) (hx : ¬ (0 ≤ x ∧ x ≤ m)) :
    Calls Tryf.prog 7 #[.pointer (some ⟨lb, 0, none⟩), .int .i64 x] w fun e w' => ∃ a, e = .returned (.iface 43 (.pointer (some a))) ∧ Below w.heap.size w w' := by
  by_cases h0 : x < 0
  · exact check_low F lb fb wi nm b sh m x w hF hL hM h0
  · exact check_high F lb fb wi nm b sh m x w hF hL hM (by omega) (by omega)

/-- The law, once the layout is made and what MaxWorker and the model answer is known. -/
structure Known (t b s : Int) (tp : Bool) (m : Int) : Prop where
  lay : ∀ w : World, Calls Tryf.prog 4 #[.int .i64 t, .int .i64 b, .int .i64 s, .bool tp] w fun e w' =>
    ∃ lb fb wi nm sh, e = .returned (.pointer (some ⟨lb, 0, none⟩)) ∧ IsLay w' lb fb wi nm b sh ∧ MaxIs lb fb wi nm b sh m ∧ Below w.heap.size w w'
  want : ∀ w : World, Calls Tryf.prog 6 #[.int .i64 t, .int .i64 b, .int .i64 s, .bool tp] w fun e w' => e = .returned (.int .i64 m) ∧ w = w'

set_option maxHeartbeats 2000000 in
theorem law_in (F : Interp) (t b s x m : Int) (tp : Bool) (w : World) (hF : F.answers w.tape) (hk : Known t b s tp m) (ht : 1 ≤ t) (hb : 1 ≤ b) (hs : 1 ≤ s) (h : t + b + s ≤ 64) :
    Calls Tryf.prog 3 #[.int .i64 t, .int .i64 b, .int .i64 s, .bool tp, .int .i64 x] w fun e w' => e = .returned (.bool true) ∧ Below w.heap.size w w' := by
  by_cases hx : 0 ≤ x ∧ x ≤ m
  · obtain ⟨hx0, hx1⟩ := hx
    go_enter Tryf.func3, Tryf.ntmps3
    go_wp2_with fail
    refine (hk.lay _).mono ?_
    rintro e w1 ⟨lb, fb, wi, nm, sh, rfl, hL1, hM, hb1⟩
    go_wp2_with fail
    refine (hM _ hL1).mono ?_
    rintro e w2 ⟨rfl, hb2⟩
    have hL2 := hL1.later hb2
    have hb12 := hb1.trans (hb2.mono hb1.size)
    go_wp2_with fail
    refine (hk.want _).mono ?_
    rintro e w3 ⟨rfl, rfl⟩
    go_wp2_with fail
    refine (check_ok lb fb wi nm b sh m x _ hL2 hM hx0 hx1).mono ?_
    rintro e w3 ⟨rfl, hb3⟩
    go_wp2
    go_ret
    exact ⟨rfl, hb12.trans (hb3.mono hb12.size)⟩
  · have hd : (decide (0 ≤ x) && decide (x ≤ m)) = false := by simp; omega
    go_enter Tryf.func3, Tryf.ntmps3
    go_wp2_with fail
    refine (hk.lay _).mono ?_
    rintro e w1 ⟨lb, fb, wi, nm, sh, rfl, hL1, hM, hb1⟩
    go_wp2_with fail
    refine (hM _ hL1).mono ?_
    rintro e w2 ⟨rfl, hb2⟩
    have hL2 := hL1.later hb2
    have hb12 := hb1.trans (hb2.mono hb1.size)
    have hF2 := answers_later hF hb12
    go_wp2_with fail
    refine (hk.want _).mono ?_
    rintro e w3 ⟨rfl, rfl⟩
    go_wp2_with fail
    refine (check_no F lb fb wi nm b sh m x _ hF2 hL2 hM hx).mono ?_
    rintro e w3 ⟨a, rfl, hb3⟩
    by_cases hx0 : 0 ≤ x
    · have hx1 : decide (x ≤ m) = false := decide_eq_false (by omega)
      go_wp2
      go_ret
      exact ⟨rfl, hb12.trans (hb3.mono hb12.size)⟩
    · have hx1 : decide (0 ≤ x) = false := decide_eq_false (by omega)
      go_wp2
      go_ret
      exact ⟨rfl, hb12.trans (hb3.mono hb12.size)⟩
end Go.Proofs.Qxb6612894aFmt
