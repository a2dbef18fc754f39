import Derived.Test.Qxb6612812aFloatC
namespace Go.Proofs.Qxb6612812a.Fl
open Ieee

theorem sv_whole (n : Nat) : sv n 0 = n * 2 ^ K := by
  unfold sv
  rw [show ((0 : Int) + 1074).toNat = K from rfl]
theorem K_add {a : Nat} (h : a ≤ 1074) : ∃ j, K = a + j := ⟨1074 - a, by rw [K_eq]; omega⟩

theorem is1000 : Is 4652007308841189376 8796093022208000 (-43) := ⟨by decide +kernel, by omega, by omega, by omega⟩
theorem sv1000 : sv 8796093022208000 (-43) = 1000 * 2 ^ K := by
  obtain ⟨j, hj⟩ := K_add (a := 43) (by omega)
  have hj' : ((-43 : Int) + 1074).toNat = j := by rw [K_eq] at hj; omega
  unfold sv
  rw [hj', hj, Nat.pow_add, show (8796093022208000 : Nat) = 1000 * 2 ^ 43 from by decide, Nat.mul_assoc]
theorem is1e9 : Is (double.nearest false 1000000000 0) 8388608000000000 (-23) := ⟨by decide +kernel, by omega, by omega, by omega⟩
theorem sv1e9 : sv 8388608000000000 (-23) = 1000000000 * 2 ^ K := by
  obtain ⟨j, hj⟩ := K_add (a := 23) (by omega)
  have hj' : ((-23 : Int) + 1074).toNat = j := by rw [K_eq] at hj; omega
  unfold sv
  rw [hj', hj, Nat.pow_add, show (8388608000000000 : Nat) = 1000000000 * 2 ^ 23 from by decide, Nat.mul_assoc]
theorem cread : double.read 4756133310154331797 = .number false 4835703278458517 (-19) := by decide +kernel
theorem svC : 5000000000 * 2 ^ K < sv 4835703278458517 (-19) := by
  obtain ⟨j, hj⟩ := K_add (a := 19) (by omega)
  have hj' : ((-19 : Int) + 1074).toNat = j := by rw [K_eq] at hj; omega
  unfold sv
  rw [hj', hj, Nat.pow_add, ← Nat.mul_assoc]
  exact Nat.mul_lt_mul_of_pos_right (by decide) (Nat.pow_pos (by omega))
theorem zread : double.read 0 = .number false 0 (-1074) := by decide +kernel

theorem lt_div_succ (x : Nat) {S : Nat} (hS : 0 < S) : x < (x / S + 1) * S := by
  have h1 := Nat.div_add_mod x S
  have h2 := Nat.mod_lt x hS
  rw [Nat.add_mul, Nat.one_mul, Nat.mul_comm]
  omega

/-- The reckoning, once the five roundings are known: S is the unit; r, s, q, u the rounded rate, rate x 1000, quotient and span; t the quotient before it is rounded. -/
theorem chain (N R S r s t q u : Nat) (hS : 0 < S) (hR : 0 < R)
    (r1 : 9007199254740992 * r ≤ 9007199254740993 * (R * S)) (r2 : 9007199254740991 * (R * S) ≤ 9007199254740992 * r)
    (s1 : 9007199254740992 * s ≤ 9007199254740993 * (1000 * r)) (s2 : 9007199254740991 * (1000 * r) ≤ 9007199254740992 * s)
    (q1 : 9007199254740992 * q ≤ 9007199254740993 * t) (q2 : 9007199254740991 * t ≤ 9007199254740992 * q)
    (t1 : 18014398509481984 * (t * s) ≤ 18014398509481985 * (N * S * S)) (t2 : 18014398509481983 * (N * S * S) ≤ 18014398509481984 * (t * s))
    (u1 : 9007199254740992 * u ≤ 9007199254740993 * (1000000000 * q)) (u2 : 9007199254740991 * (1000000000 * q) ≤ 9007199254740992 * u) :
    1125899906842624 * (u * R) ≤ 1125899906842625 * (N * S * 1000000) ∧ 1125899906842623 * (N * S * 1000000) ≤ 1125899906842624 * (u * R) ∧ 999 * t ≤ 2 * (N * S) := by
  -- s against R S, u against t
  have a1 : 9007199254740992 * 9007199254740992 * s ≤ 9007199254740993 * 9007199254740993 * 1000 * (R * S) := by omega
  have a2 : 9007199254740991 * 9007199254740991 * 1000 * (R * S) ≤ 9007199254740992 * 9007199254740992 * s := by omega
  have b1 : 9007199254740992 * 9007199254740992 * u ≤ 9007199254740993 * 9007199254740993 * 1000000000 * t := by omega
  have b2 : 9007199254740991 * 9007199254740991 * 1000000000 * t ≤ 9007199254740992 * 9007199254740992 * u := by omega
  have c1 := Nat.mul_le_mul_left u a1
  have c2 := Nat.mul_le_mul_left u a2
  have d1 := Nat.mul_le_mul_right s b1
  have d2 := Nat.mul_le_mul_right s b2
  rw [Nat.mul_left_comm u _ s, Nat.mul_left_comm u _ (R * S)] at c1 c2
  rw [Nat.mul_assoc _ u s, Nat.mul_assoc _ t s] at d1
  rw [Nat.mul_assoc _ t s, Nat.mul_assoc _ u s] at d2
  rw [← Nat.mul_assoc u R S] at c1 c2
  have g1 : 1125899906842624 * (u * R * S) ≤ 1125899906842625 * 1000000 * (N * S * S) := by omega
  have g2 : 1125899906842623 * 1000000 * (N * S * S) ≤ 1125899906842624 * (u * R * S) := by omega
  have k1 : 1125899906842624 * (u * R) * S ≤ 1125899906842625 * 1000000 * (N * S) * S := by rw [Nat.mul_assoc _ (u * R) S, Nat.mul_assoc _ (N * S) S]; exact g1
  have k2 : 1125899906842623 * 1000000 * (N * S) * S ≤ 1125899906842624 * (u * R) * S := by rw [Nat.mul_assoc _ (u * R) S, Nat.mul_assoc _ (N * S) S]; exact g2
  have j1 := Nat.le_of_mul_le_mul_right k1 hS
  have j2 := Nat.le_of_mul_le_mul_right k2 hS
  refine ⟨by omega, by omega, ?_⟩
  -- s is at least 999 S
  have hRS : 1 * S ≤ R * S := Nat.mul_le_mul_right S hR
  have e1 : 999 * S ≤ s := by omega
  have e2 := Nat.mul_le_mul_left t e1
  rw [Nat.mul_left_comm, ← Nat.mul_assoc] at e2
  have e3 : 999 * t * S ≤ 2 * (N * S) * S := by
    rw [Nat.mul_assoc 2 (N * S) S]
    omega
  exact Nat.le_of_mul_le_mul_right e3 hS

theorem pipe (N R : Nat) (hN : 0 < N) (hN2 : N ≤ 1099511627776) (hR : 0 < R) (hR2 : R ≤ 9223372036854775807) :
    ∃ P Q M D : Nat, double.mul (double.nearest false R 0) 4652007308841189376 = some P ∧ double.div (double.nearest false N 0) P = some Q ∧ double.order Q 0 = some .gt ∧ double.order Q 4756133310154331797 = some .lt ∧
      double.mul Q (double.nearest false 1000000000 0) = some M ∧ (double.read M).toInt .zero = some (D : Int) ∧
      1125899906842624 * (D * R) ≤ 1125899906842625 * (N * 1000000) ∧ 1125899906842623 * (N * 1000000) < 1125899906842624 * ((D + 1) * R) := by
  have hS : 0 < 2 ^ K := Nat.pow_pos (by omega)
  have lR : R.log2 < 63 := (Nat.log2_lt (by omega)).2 (by omega)
  have lN : N.log2 < 41 := (Nat.log2_lt (by omega)).2 (by omega)
  obtain ⟨m1, p1, i1, x1, y1, r1, r2, _⟩ := near R 0 hR (by omega) (by omega) (by omega)
  obtain ⟨P, m2, p2, eP, i2, x2, y2, s1, s2⟩ := mul_near i1 is1000 sv1000 (by omega) (by omega) (by omega) (by omega)
  obtain ⟨m3, p3, i3, x3, y3, _, _, n3⟩ := near N 0 hN (by omega) (by omega) (by omega)
  obtain ⟨Q, m4, p4, t, eQ, i4, x4, y4, q1, q2, t1, t2⟩ := div_near i3 i2 (by omega) (by omega) (by omega) (by omega)
  obtain ⟨M, m5, p5, eM, i5, x5, y5, u1, u2⟩ := mul_near i4 is1e9 sv1e9 (by omega) (by omega) (by omega) (by omega)
  rw [n3 (by omega), sv_whole] at t1 t2
  rw [sv_whole] at r1 r2
  obtain ⟨z1, z2, z3⟩ := chain N R (2 ^ K) _ _ t _ _ hS hR r1 r2 s1 s2 q1 q2 t1 t2 u1 u2
  have hpos : 0 < sv m4 p4 := Nat.mul_pos (by have := i4.lo; omega) (Nat.pow_pos (by omega))
  have hNS : N * 2 ^ K ≤ 1099511627776 * 2 ^ K := Nat.mul_le_mul_right _ hN2
  have hC := svC
  refine ⟨P, Q, M, sv m5 p5 / 2 ^ K, eP, eQ, order_gt i4.read zread i4.pl (by omega) (by unfold sv at hpos ⊢; rw [Nat.zero_mul]; exact hpos), order_lt i4.read cread i4.pl (by omega) (by omega), eM, toInt_word i5, ?_, ?_⟩
  · have h1 := Nat.div_mul_le_self (sv m5 p5) (2 ^ K)
    generalize sv m5 p5 / 2 ^ K = D at h1
    have h2 := Nat.mul_le_mul_right R h1
    have h3 : 1125899906842624 * (D * R) * 2 ^ K ≤ 1125899906842625 * (N * 1000000) * 2 ^ K := by
      have e1 : 1125899906842624 * (D * R) * 2 ^ K = 1125899906842624 * (D * 2 ^ K * R) := by rw [Nat.mul_assoc, Nat.mul_right_comm D R]
      have e2 : 1125899906842625 * (N * 1000000) * 2 ^ K = 1125899906842625 * (N * 2 ^ K * 1000000) := by rw [Nat.mul_assoc, Nat.mul_right_comm N]
      rw [e1, e2]
      omega
    exact Nat.le_of_mul_le_mul_right h3 hS
  · have h1 : sv m5 p5 < (sv m5 p5 / 2 ^ K + 1) * 2 ^ K := lt_div_succ _ hS
    generalize sv m5 p5 / 2 ^ K = D at h1
    have h2 := Nat.mul_lt_mul_of_pos_right h1 hR
    have h3 : 1125899906842623 * (N * 1000000) * 2 ^ K < 1125899906842624 * ((D + 1) * R) * 2 ^ K := by
      have e1 : 1125899906842624 * ((D + 1) * R) * 2 ^ K = 1125899906842624 * ((D + 1) * 2 ^ K * R) := by rw [Nat.mul_assoc, Nat.mul_right_comm (D + 1) R]
      have e2 : 1125899906842623 * (N * 1000000) * 2 ^ K = 1125899906842623 * (N * 2 ^ K * 1000000) := by rw [Nat.mul_assoc, Nat.mul_right_comm N]
      rw [e1, e2]
      omega
    exact Nat.lt_of_mul_lt_mul_right h3
end Go.Proofs.Qxb6612812a.Fl
