import Derived.Test.Qxb6612812aTimeE
import Derived.Laws.FloatArith
namespace Go.Proofs.Qxb6612812a
open Go.RowKit

set_option maxHeartbeats 1000000 in
theorem span_pos (Q C M : Nat) (D : Int) (w : World) (h0 : (FloatKind.f64.format.order Q 0) = some .gt)
    (hC : floatBits .quo .f64 4890909195324358656 (floatOfInt .f64 1000000000) = some C) (h1 : (FloatKind.f64.format.order Q C) = some .lt)
    (hM : floatBits .mul .f64 Q (floatOfInt .f64 1000000000) = some M) (hD : floatToIntVal .f64 M .i64 = some D) :
    Calls Try.prog 29 #[.float .f64 Q, .int .i64 1000000000] w fun e w' => e = .returned (.int .i64 D) ∧ w = w' := by
  have r1 := fun w => run_float_arith (P := Try.prog) w .quo 54 .f64 _ _ _ hC
  have r2 := fun w => run_float_arith (P := Try.prog) w .mul 54 .f64 _ _ _ hM
  have r3 := fun w => run_convert_float_int (P := Try.prog) w 54 66 .f64 .i64 M D (by rw [Try.underlying54]; rfl) Try.underlying66 hD
  go_enter Try.func29, Try.ntmps29
  go_wp2
  go_ret
  exact ⟨rfl, rfl⟩

set_option maxHeartbeats 1000000 in
theorem span_zero (w : World) (h0 : (FloatKind.f64.format.order 0 0) = some .eq) :
    Calls Try.prog 29 #[.float .f64 0, .int .i64 1000000000] w fun e w' => e = .returned (.int .i64 0) ∧ w = w' := by
  go_enter Try.func29, Try.ntmps29
  go_wp2
  go_ret
  exact ⟨rfl, rfl⟩
end Go.Proofs.Qxb6612812a
