import Derived.Test.Qxb6612812aFloatB
namespace Go.Proofs.Qxb6612812a.Fl
open Ieee

theorem cut_zero (n b : Nat) : Toward.zero.cut false n b = n / 2 ^ b := by
  unfold Toward.cut
  rw [Nat.one_shiftLeft]
  show n / 2 ^ min b (n.log2 + 2) + 0 = _
  rw [Nat.add_zero]
  by_cases h : b ≤ n.log2 + 2
  · rw [Nat.min_eq_left h]
  · have l2 : n < 2 ^ (n.log2 + 1) := Nat.lt_log2_self
    have p1 : 2 ^ (n.log2 + 1) ≤ 2 ^ min b (n.log2 + 2) := Nat.pow_le_pow_right (by omega) (by omega)
    have p2 : 2 ^ (n.log2 + 1) ≤ 2 ^ b := Nat.pow_le_pow_right (by omega) (by omega)
    rw [Nat.div_eq_of_lt (by omega), Nat.div_eq_of_lt (by omega)]

theorem toInt_word {x m : Nat} {p : Int} (h : Is x m p) : (double.read x).toInt .zero = some ((sv m p / 2 ^ K : Nat) : Int) := by
  have hp := h.pl
  rw [h.read]
  show some (signed false (Toward.zero.cut false (m <<< p.toNat) (-p).toNat) 0) = _
  rw [cut_zero, Nat.shiftLeft_eq]
  have e : m * 2 ^ p.toNat / 2 ^ (-p).toNat = sv m p / 2 ^ K := by
    unfold sv
    by_cases c : 0 ≤ p
    · rw [show (-p).toNat = 0 by omega, Nat.pow_zero, Nat.div_one, show (p + 1074).toNat = p.toNat + K by rw [K_eq]; omega, Nat.pow_add, ← Nat.mul_assoc, Nat.mul_div_cancel _ (Nat.pow_pos (by omega))]
    · rw [show p.toNat = 0 by omega, Nat.pow_zero, Nat.mul_one, show K = (-p).toNat + (p + 1074).toNat by rw [K_eq]; omega, Nat.pow_add, Nat.mul_div_mul_right _ _ (Nat.pow_pos (by omega))]
  rw [e]
  unfold signed
  rw [if_neg (by simp), Nat.shiftLeft_zero]

theorem order_lt {x y m n : Nat} {p q : Int} (h1 : double.read x = .number false m p) (h2 : double.read y = .number false n q) (hp : -1074 ≤ p) (hq : -1074 ≤ q) (h : sv m p < sv n q) : double.order x y = some .lt := by
  unfold Format.order
  rw [h1, h2]
  show some (compare (signed false m (p - min p q).toNat) (signed false n (q - min p q).toNat)) = _
  unfold signed
  rw [if_neg (by simp), if_neg (by simp), Nat.shiftLeft_eq, Nat.shiftLeft_eq]
  have e1 : sv m p = (m * 2 ^ (p - min p q).toNat) * 2 ^ (min p q + 1074).toNat := by
    unfold sv
    rw [Nat.mul_assoc, ← Nat.pow_add, show (p - min p q).toNat + (min p q + 1074).toNat = (p + 1074).toNat by omega]
  have e2 : sv n q = (n * 2 ^ (q - min p q).toNat) * 2 ^ (min p q + 1074).toNat := by
    unfold sv
    rw [Nat.mul_assoc, ← Nat.pow_add, show (q - min p q).toNat + (min p q + 1074).toNat = (q + 1074).toNat by omega]
  rw [e1, e2] at h
  have hlt := Nat.lt_of_mul_lt_mul_right h
  have hI : ((m * 2 ^ (p - min p q).toNat : Nat) : Int) < ((n * 2 ^ (q - min p q).toNat : Nat) : Int) := Int.ofNat_lt.2 hlt
  generalize ((m * 2 ^ (p - min p q).toNat : Nat) : Int) = a at hI
  generalize ((n * 2 ^ (q - min p q).toNat : Nat) : Int) = b at hI
  simp [compare, compareOfLessAndEq, hI]

theorem order_gt {x y m n : Nat} {p q : Int} (h1 : double.read x = .number false m p) (h2 : double.read y = .number false n q) (hp : -1074 ≤ p) (hq : -1074 ≤ q) (h : sv n q < sv m p) : double.order x y = some .gt := by
  unfold Format.order
  rw [h1, h2]
  show some (compare (signed false m (p - min p q).toNat) (signed false n (q - min p q).toNat)) = _
  unfold signed
  rw [if_neg (by simp), if_neg (by simp), Nat.shiftLeft_eq, Nat.shiftLeft_eq]
  have e1 : sv m p = (m * 2 ^ (p - min p q).toNat) * 2 ^ (min p q + 1074).toNat := by
    unfold sv
    rw [Nat.mul_assoc, ← Nat.pow_add, show (p - min p q).toNat + (min p q + 1074).toNat = (p + 1074).toNat by omega]
  have e2 : sv n q = (n * 2 ^ (q - min p q).toNat) * 2 ^ (min p q + 1074).toNat := by
    unfold sv
    rw [Nat.mul_assoc, ← Nat.pow_add, show (q - min p q).toNat + (min p q + 1074).toNat = (q + 1074).toNat by omega]
  rw [e1, e2] at h
  have hlt := Nat.lt_of_mul_lt_mul_right h
  have hI : ((n * 2 ^ (q - min p q).toNat : Nat) : Int) < ((m * 2 ^ (p - min p q).toNat : Nat) : Int) := Int.ofNat_lt.2 hlt
  generalize ((m * 2 ^ (p - min p q).toNat : Nat) : Int) = a at hI
  generalize ((n * 2 ^ (q - min p q).toNat : Nat) : Int) = b at hI
  have n1 : ¬ a < b := by omega
  have n2 : ¬ a = b := by omega
  simp [compare, compareOfLessAndEq, n1, n2]
end Go.Proofs.Qxb6612812a.Fl
