import Derived.Test.Qxb6612812aFloatD
import Derived.Test.Qxb6612812aSpan
namespace Go.Proofs.Qxb6612812a
open Go.RowKit

theorem near_of (N R D : Nat) (hR : 0 < R) (h1 : 1125899906842624 * (D * R) ≤ 1125899906842625 * (N * 1000000)) (h2 : 1125899906842623 * (N * 1000000) < 1125899906842624 * ((D + 1) * R)) :
    D ≤ N * 1000000 / R + 2 + N * 1000000 / R / 281474976710656 ∧ N * 1000000 / R ≤ D + 2 + N * 1000000 / R / 281474976710656 := by
  have a1 := Nat.div_mul_le_self (N * 1000000) R
  have a2 := Fl.lt_div_succ (N * 1000000) hR
  generalize N * 1000000 = X at *
  generalize X / R = x at *
  have k1 : 1125899906842624 * D * R < 1125899906842625 * (x + 1) * R := by rw [Nat.mul_assoc, Nat.mul_assoc]; omega
  have k2 : 1125899906842623 * x * R < 1125899906842624 * (D + 1) * R := by rw [Nat.mul_assoc, Nat.mul_assoc]; omega
  have j1 := Nat.lt_of_mul_lt_mul_right k1
  have j2 := Nat.lt_of_mul_lt_mul_right k2
  omega

theorem ofInt_nat (n : Nat) : floatOfInt .f64 (n : Int) = Ieee.double.nearest false n 0 := by
  show Ieee.double.nearest (decide ((n : Int) < 0)) (n : Int).natAbs 0 = _
  rw [decide_eq_false (by omega), Int.natAbs_natCast]

theorem quoC : floatBits .quo .f64 4890909195324358656 (floatOfInt .f64 1000000000) = some 4756133310154331797 := by decide +kernel

/-- THE FLOATS OF 'due': n bytes at R KB/s take D nanoseconds, near n * 10^6 / R. -/
theorem floats (n r : Nat) (hn : n ≤ 1099511627776) (hr0 : 0 < r) (hr : r ≤ 9223372036854775807) :
    ∃ P Q D : Nat, floatBits .mul .f64 (floatOfInt .f64 (r : Int)) 4652007308841189376 = some P ∧ floatBits .quo .f64 (floatOfInt .f64 (n : Int)) P = some Q ∧
      (∀ w, Calls Try.prog 29 #[.float .f64 Q, .int .i64 1000000000] w fun e w' => e = .returned (.int .i64 (D : Int)) ∧ w = w') ∧
      D ≤ n * 1000000 / r + 2 + n * 1000000 / r / 281474976710656 ∧ n * 1000000 / r ≤ D + 2 + n * 1000000 / r / 281474976710656 := by
  by_cases h0 : n = 0
  · subst h0
    have lR : r.log2 < 63 := (Nat.log2_lt (by omega)).2 (by omega)
    obtain ⟨m1, p1, i1, x1, y1, _⟩ := Fl.near r 0 hr0 (by omega) (by omega) (by omega)
    obtain ⟨P, m2, p2, eP, i2, _⟩ := Fl.mul_near i1 Fl.is1000 Fl.sv1000 (by omega) (by omega) (by omega) (by omega)
    refine ⟨P, 0, 0, by rw [ofInt_nat]; exact eP, ?_, fun w => span_zero w (by decide +kernel), Nat.zero_le _, by simp⟩
    show Ieee.double.div (floatOfInt .f64 ((0 : Nat) : Int)) P = some 0
    rw [ofInt_nat]
    have g := i2.lo
    have e : Ieee.Datum.quotient (Ieee.double.fractionBits + 2) (.number false 0 (-1074)) (.number false m2 p2) = some (.number false 0 (-1074 - p2 - ((Ieee.double.fractionBits + 2 + m2.log2 - (0 : Nat).log2 : Nat) : Int) - 1)) := by
      simp only [Ieee.Datum.quotient]
      rw [if_neg (by omega), Nat.zero_shiftLeft, Nat.zero_div, Nat.zero_mod]
      rfl
    unfold Ieee.Format.div
    rw [show Ieee.double.nearest false 0 0 = 0 by decide +kernel, Fl.zread, i2.read, e]
    rfl
  · obtain ⟨P, Q, M, D, eP, eQ, o1, o2, eM, eD, b1, b2⟩ := Fl.pipe n r (by omega) hn hr0 hr
    obtain ⟨c1, c2⟩ := near_of n r D hr0 b1 b2
    refine ⟨P, Q, D, by rw [ofInt_nat]; exact eP, by rw [ofInt_nat]; exact eQ, fun w => ?_, c1, c2⟩
    have hx : n * 1000000 / r ≤ 1099511627776 * 1000000 := Nat.le_trans (Nat.div_le_self _ _) (Nat.mul_le_mul_right _ hn)
    refine span_pos Q 4756133310154331797 M D w o1 quoC o2 ?_ ?_
    · rw [show (1000000000 : Int) = ((1000000000 : Nat) : Int) from rfl, ofInt_nat]
      exact eM
    · unfold floatToIntVal
      rw [show FloatKind.f64.decode M = Ieee.double.read M from rfl, eD]
      simp only []
      rw [if_pos]
      refine ⟨?_, ?_⟩
      · show (-9223372036854775808 : Int) ≤ D
        omega
      · show (D : Int) ≤ 9223372036854775807
        omega
end Go.Proofs.Qxb6612812a
