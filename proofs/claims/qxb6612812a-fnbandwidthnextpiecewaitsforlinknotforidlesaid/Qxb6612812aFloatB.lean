import Derived.Test.Qxb6612812aFloatA
namespace Go.Proofs.Qxb6612812a.Fl
open Ieee

/-- 1074, kept from being reckoned out in an exponent. -/
def K : Nat := 1074
theorem K_eq : K = 1074 := rfl

theorem log2_of {m k : Nat} (h1 : 2 ^ k ≤ m) (h2 : m < 2 ^ (k + 1)) : m.log2 = k := by
  have hm : m ≠ 0 := by have := Nat.pow_pos (n := k) (show 0 < 2 by omega); omega
  have a := (Nat.le_log2 hm).2 h1
  have b := (Nat.log2_lt hm).2 h2
  omega
theorem Is.log2 {x m : Nat} {p : Int} (h : Is x m p) : m.log2 = 52 := log2_of h.lo h.hi

theorem mul_word {x y m1 m2 : Nat} {p1 p2 : Int} (h1 : Is x m1 p1) (h2 : Is y m2 p2) : double.mul x y = some (double.nearest false (m1 * m2) (p1 + p2)) := by
  unfold Format.mul
  rw [h1.read, h2.read]
  rfl

theorem sv_mul {m1 m2 : Nat} {p1 p2 : Int} (h1 : -1074 ≤ p1) (h2 : -1074 ≤ p2) (h : -1074 ≤ p1 + p2) : sv (m1 * m2) (p1 + p2) * 2 ^ K = sv m1 p1 * sv m2 p2 := by
  unfold sv
  rw [Nat.mul_assoc, ← Nat.pow_add, Nat.mul_mul_mul_comm, ← Nat.pow_add, show (p1 + p2 + 1074).toNat + K = (p1 + 1074).toNat + (p2 + 1074).toNat by rw [K_eq]; omega]

/-- A product with a factor that is the whole number c. -/
theorem mul_near {x y m1 m2 : Nat} {p1 p2 : Int} (h1 : Is x m1 p1) (h2 : Is y m2 p2) {c : Nat} (hc : sv m2 p2 = c * 2 ^ K) (ha : -500 ≤ p1) (hb : p1 ≤ 300) (ga : -100 ≤ p2) (gb : p2 ≤ 100) :
    ∃ z m p, double.mul x y = some z ∧ Is z m p ∧ p1 + p2 + 52 ≤ p ∧ p ≤ p1 + p2 + 54 ∧
      9007199254740992 * sv m p ≤ 9007199254740993 * (c * sv m1 p1) ∧ 9007199254740991 * (c * sv m1 p1) ≤ 9007199254740992 * sv m p := by
  have k1 : 4503599627370496 * 4503599627370496 ≤ m1 * m2 := Nat.mul_le_mul h1.lo h2.lo
  have k2 : m1 * m2 < 9007199254740992 * 9007199254740992 := Nat.mul_lt_mul'' h1.hi h2.hi
  have hm : m1 * m2 ≠ 0 := by omega
  have l1 : 104 ≤ (m1 * m2).log2 := (Nat.le_log2 hm).2 (by rw [show (2 : Nat) ^ 104 = 4503599627370496 * 4503599627370496 from by decide]; exact k1)
  have l2 : (m1 * m2).log2 < 106 := (Nat.log2_lt hm).2 (by rw [show (2 : Nat) ^ 106 = 9007199254740992 * 9007199254740992 from by decide]; exact k2)
  obtain ⟨m, p, hI, q1, q2, b1, b2, _⟩ := near (m1 * m2) (p1 + p2) (by omega) (by omega) (by omega) (by omega)
  have e : sv (m1 * m2) (p1 + p2) = c * sv m1 p1 := by
    have := sv_mul (m1 := m1) (m2 := m2) (p1 := p1) (p2 := p2) (by omega) (by omega) (by omega)
    rw [hc, ← Nat.mul_assoc] at this
    have := Nat.eq_of_mul_eq_mul_right (Nat.pow_pos (by omega)) this
    rw [this, Nat.mul_comm]
  rw [e] at b1 b2
  exact ⟨_, m, p, mul_word h1 h2, hI, by omega, by omega, b1, b2⟩

/-- The quotient's datum. -/
def quo (m1 m2 : Nat) : Nat := 2 * (m1 * 2 ^ 54 / m2) + (m1 * 2 ^ 54 % m2 != 0).toNat

theorem div_word {x y m1 m2 : Nat} {p1 p2 : Int} (h1 : Is x m1 p1) (h2 : Is y m2 p2) : double.div x y = some (double.nearest false (quo m1 m2) (p1 - p2 - 55)) := by
  have g := h2.lo
  unfold Format.div
  rw [h1.read, h2.read]
  have e : Datum.quotient (double.fractionBits + 2) (.number false m1 p1) (.number false m2 p2) = some (.number false (quo m1 m2) (p1 - p2 - 55)) := by
    simp only [Datum.quotient]
    rw [if_neg (by omega), h1.log2, h2.log2, c_frac, Nat.shiftLeft_eq]
    show some (Datum.number false (quo m1 m2) (p1 - p2 - ((54 : Nat) : Int) - 1)) = _
    rw [show p1 - p2 - ((54 : Nat) : Int) - 1 = p1 - p2 - 55 by omega]
  rw [e]
  rfl

theorem quo_near {m1 m2 : Nat} (a1 : 4503599627370496 ≤ m1) (a2 : m1 < 9007199254740992) (b1 : 4503599627370496 ≤ m2) (b2 : m2 < 9007199254740992) :
    18014398509481984 * (quo m1 m2 * m2) ≤ 18014398509481985 * (m1 * 36028797018963968) ∧ 18014398509481983 * (m1 * 36028797018963968) ≤ 18014398509481984 * (quo m1 m2 * m2) ∧ 2 ^ 53 ≤ quo m1 m2 ∧ quo m1 m2 < 2 ^ 57 := by
  have hdm := Nat.div_add_mod (m1 * 2 ^ 54) m2
  have hlt : m1 * 2 ^ 54 % m2 < m2 := Nat.mod_lt _ (by omega)
  have ql : 2 ^ 52 ≤ m1 * 2 ^ 54 / m2 := (Nat.le_div_iff_mul_le (by omega)).2 (by omega)
  have qh : m1 * 2 ^ 54 / m2 < 2 ^ 56 := (Nat.div_lt_iff_lt_mul (by omega)).2 (by omega)
  unfold quo
  generalize m1 * 2 ^ 54 / m2 = q at *
  generalize hr : m1 * 2 ^ 54 % m2 = r at *
  have hs : ∃ t, (r != 0).toNat = t ∧ ((t = 0 ∧ r = 0) ∨ (t = 1 ∧ 0 < r)) := by
    by_cases c : r = 0
    · exact ⟨0, by simp [c], .inl ⟨rfl, c⟩⟩
    · exact ⟨1, by simp [c], .inr ⟨rfl, by omega⟩⟩
  obtain ⟨t, ht, hcase⟩ := hs
  rw [ht]
  have e : (2 * q + t) * m2 = 2 * (m2 * q) + t * m2 := by rw [Nat.add_mul, Nat.mul_assoc, Nat.mul_comm q m2]
  rw [e]
  generalize m2 * q = B at *
  rcases hcase with ⟨rfl, rfl⟩ | ⟨rfl, hpos⟩
  · refine ⟨by omega, by omega, by omega, by omega⟩
  · refine ⟨by omega, by omega, by omega, by omega⟩

theorem div_near {x y m1 m2 : Nat} {p1 p2 : Int} (h1 : Is x m1 p1) (h2 : Is y m2 p2) (ha : -100 ≤ p1) (hb : p1 ≤ 100) (ga : -100 ≤ p2) (gb : p2 ≤ 100) :
    ∃ z m p t, double.div x y = some z ∧ Is z m p ∧ p1 - p2 - 54 ≤ p ∧ p ≤ p1 - p2 - 50 ∧
      9007199254740992 * sv m p ≤ 9007199254740993 * t ∧ 9007199254740991 * t ≤ 9007199254740992 * sv m p ∧
      18014398509481984 * (t * sv m2 p2) ≤ 18014398509481985 * (sv m1 p1 * 2 ^ K) ∧ 18014398509481983 * (sv m1 p1 * 2 ^ K) ≤ 18014398509481984 * (t * sv m2 p2) := by
  obtain ⟨c1, c2, c3, c4⟩ := quo_near h1.lo h1.hi h2.lo h2.hi
  have hm : quo m1 m2 ≠ 0 := by omega
  have l1 : 53 ≤ (quo m1 m2).log2 := (Nat.le_log2 hm).2 c3
  have l2 : (quo m1 m2).log2 < 57 := (Nat.log2_lt hm).2 c4
  obtain ⟨m, p, hI, q1, q2, b1, b2, _⟩ := near (quo m1 m2) (p1 - p2 - 55) (by omega) (by omega) (by omega) (by omega)
  have e1 : sv (quo m1 m2) (p1 - p2 - 55) * sv m2 p2 = (quo m1 m2 * m2) * 2 ^ (p1 + 2093).toNat := by
    unfold sv
    rw [Nat.mul_mul_mul_comm, ← Nat.pow_add, show (p1 - p2 - 55 + 1074).toNat + (p2 + 1074).toNat = (p1 + 2093).toNat by omega]
  have e2 : sv m1 p1 * 2 ^ K = (m1 * 36028797018963968) * 2 ^ (p1 + 2093).toNat := by
    unfold sv
    rw [Nat.mul_assoc, ← Nat.pow_add, Nat.mul_assoc, show (36028797018963968 : Nat) = 2 ^ 55 from by decide, ← Nat.pow_add, show (p1 + 1074).toNat + K = 55 + (p1 + 2093).toNat by rw [K_eq]; omega]
  refine ⟨_, m, p, sv (quo m1 m2) (p1 - p2 - 55), div_word h1 h2, hI, by omega, by omega, b1, b2, ?_, ?_⟩
  · rw [e1, e2]
    have := Nat.mul_le_mul_right (2 ^ (p1 + 2093).toNat) c1
    rwa [Nat.mul_assoc 18014398509481984, Nat.mul_assoc 18014398509481985] at this
  · rw [e1, e2]
    have := Nat.mul_le_mul_right (2 ^ (p1 + 2093).toNat) c2
    rwa [Nat.mul_assoc 18014398509481984, Nat.mul_assoc 18014398509481983] at this
end Go.Proofs.Qxb6612812a.Fl
