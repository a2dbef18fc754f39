import Derived.Test.Qxb6612894aFmtWalkA
namespace Go.Proofs.Qxb6612894aFmt
open Go.RowKit

set_option maxHeartbeats 2000000 in
theorem maxw0b (lb fb : Nat) (nm : ByteArray) (b s p q : Int) (w : World) (hL : IsLay w lb fb 0 nm b s) (hb : 1 ≤ b) (hb2 : b ≤ 62) (hs : 0 ≤ s) (hs2 : s ≤ 63) (hp : (2 : Int) ^ b.toNat = p) (hp1 : 2 ≤ p) (hp2 : p ≤ 4611686018427387904) (hq : 9223372036854775807 / (2 : Int) ^ s.toNat = q) (hq0 : 0 ≤ q) (hq1 : q ≤ 9223372036854775807) (hpq : q < p - 1) :
    Calls Tryf.prog 5 #[.pointer (some ⟨lb, 0, none⟩)] w fun e w' => e = .returned (.int .i64 (q)) ∧ Below w.heap.size w w' := by
  have c1 := hL.fields
  have c2 := hL.worker
  have c3 := hL.name
  have c4 := hL.bits
  have c5 := hL.shift
  have c6 := hL.tick
  have HP : Hid ((2 : Int) ^ b.toNat = p) := hp
  clear hp
  have l1 := hL.llt
  have l2 := hL.flt
  go_enter Tryf.func5, Tryf.ntmps5
  go_wp2
  go_region
  go_wp2
  go_region_with (go_at_call 9; refine (maxf _ b s 0 p _ hb hb2 HP.out hp1 hp2).mono ?_; rintro e w' ⟨rfl, rfl⟩)
  all_goals
    go_wp2
    go_ret
    exact ⟨congrArg (fun z => Ending.returned (.int .i64 z)) (wrap_i64_in (by omega) (by omega)), two_new _ _ _⟩

end Go.Proofs.Qxb6612894aFmt
