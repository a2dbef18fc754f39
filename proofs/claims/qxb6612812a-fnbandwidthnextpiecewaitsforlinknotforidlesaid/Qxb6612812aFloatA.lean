import Derived.Laws.FloatArith
namespace Go.Proofs.Qxb6612812a.Fl
open Ieee

/-- The number m * 2 ^ p in units of 2 ^ -1074 (the least place of a double). -/
def sv (m : Nat) (p : Int) : Nat := m * 2 ^ (p + 1074).toNat

/-- The word x is a normal positive double: m * 2 ^ p. -/
structure Is (x m : Nat) (p : Int) : Prop where
  read : double.read x = .number false m p
  lo : 4503599627370496 ≤ m
  hi : m < 9007199254740992
  pl : -1074 ≤ p

theorem c_binade : double.binade = 4503599627370496 := by decide
theorem c_least : double.leastPlace = -1074 := by decide
theorem c_inf : double.infRung = 9218868437227405312 := by decide
theorem c_sign : double.signWeight = 9223372036854775808 := by decide
theorem c_frac : double.fractionBits = 52 := rfl

theorem read_norm (k m : Nat) (hk : k ≤ 2040) (h1 : 4503599627370496 ≤ m) (h2 : m < 9007199254740992) :
    double.read (k * 4503599627370496 + m) = .number false m (-1074 + (k : Int)) := by
  unfold Format.read
  rw [c_binade, c_least, c_inf, c_sign]
  have e0 : (k * 4503599627370496 + m) % 9223372036854775808 = k * 4503599627370496 + m := Nat.mod_eq_of_lt (by omega)
  have e1 : (k * 4503599627370496 + m) / 9223372036854775808 = 0 := Nat.div_eq_of_lt (by omega)
  have e2 : (k * 4503599627370496 + m) % 4503599627370496 = m - 4503599627370496 := by omega
  have e3 : (k * 4503599627370496 + m) / 4503599627370496 = k + 1 := by omega
  simp only [e0, e1, e2, e3]
  rw [if_neg (by omega), if_pos (by omega)]
  have e4 : 4503599627370496 + (m - 4503599627370496) = m := by omega
  rw [e4]
  rfl

/-- Rounding to the nearest even, below 1/2 of the gap. -/
theorem cut_even (n b : Nat) (hb : b ≤ n.log2 + 2) : ∃ r, Toward.even.cut false n b = n / 2 ^ b + r ∧ r ≤ 1 ∧ (r = 1 → 2 ^ b ≤ 2 * (n % 2 ^ b)) ∧ (r = 0 → 2 * (n % 2 ^ b) ≤ 2 ^ b) := by
  unfold Toward.cut
  rw [Nat.min_eq_left hb, Nat.one_shiftLeft]
  simp only []
  generalize n / 2 ^ b = q
  generalize n % 2 ^ b = r
  generalize 2 ^ b = g
  by_cases c : (decide (g < 2 * r) || g == 2 * r && q % 2 == 1) = true
  · refine ⟨1, by rw [c]; rfl, by omega, fun _ => ?_, fun h => by omega⟩
    simp at c
    omega
  · refine ⟨0, by simp only [Bool.not_eq_true] at c; rw [c]; rfl, by omega, fun h => by omega, fun _ => ?_⟩
    simp at c
    omega

theorem write_norm (k t : Nat) (hk : k ≤ 2000) (h1 : 4503599627370496 ≤ t) (h2 : t ≤ 9007199254740992) :
    ∃ m p, Is (double.word false (min (k * double.binade + t) double.infRung)) m p ∧ sv m p = t * 2 ^ k ∧ -1074 + (k : Int) ≤ p ∧ p ≤ -1074 + (k : Int) + 1 := by
  have e : double.word false (min (k * double.binade + t) double.infRung) = k * 4503599627370496 + t := by
    rw [c_binade, c_inf, Nat.min_eq_left (by omega)]
    rfl
  rw [e]
  by_cases c : t < 9007199254740992
  · refine ⟨t, -1074 + (k : Int), ⟨read_norm k t (by omega) h1 c, h1, c, by omega⟩, ?_, by omega, by omega⟩
    unfold sv
    rw [show (-1074 + (k : Int) + 1074).toNat = k by omega]
  · have et : t = 9007199254740992 := by omega
    have e2 : k * 4503599627370496 + t = (k + 1) * 4503599627370496 + 4503599627370496 := by omega
    refine ⟨4503599627370496, -1074 + ((k + 1 : Nat) : Int), ⟨?_, by omega, by omega, by omega⟩, ?_, by omega, by omega⟩
    · rw [e2]
      exact read_norm (k + 1) 4503599627370496 (by omega) (by omega) (by omega)
    · unfold sv
      rw [show (-1074 + ((k + 1 : Nat) : Int) + 1074).toNat = k + 1 by omega, et, Nat.pow_succ, show (9007199254740992 : Nat) = 4503599627370496 * 2 from rfl, Nat.mul_assoc, Nat.mul_comm 2]

/-- A NUMBER ROUNDED TO THE NEAREST DOUBLE, in the normal range: off by at most one part in 2 ^ 53. -/
theorem near (mag : Nat) (place : Int) (h0 : 0 < mag) (h1 : -1022 ≤ place + (mag.log2 : Int)) (h2 : -1074 ≤ place) (h3 : place + (mag.log2 : Int) ≤ 900) :
    ∃ m p, Is (double.nearest false mag place) m p ∧ place + (mag.log2 : Int) - 52 ≤ p ∧ p ≤ place + (mag.log2 : Int) - 51 ∧
      9007199254740992 * sv m p ≤ 9007199254740993 * sv mag place ∧ 9007199254740991 * sv mag place ≤ 9007199254740992 * sv m p ∧ (mag.log2 ≤ 52 → sv m p = sv mag place) := by
  have l1 : 2 ^ mag.log2 ≤ mag := Nat.log2_self_le (by omega)
  have l2 : mag < 2 ^ (mag.log2 + 1) := Nat.lt_log2_self
  unfold Format.nearest
  rw [if_neg (by omega), c_least, c_frac]
  simp only []
  rw [show max (place + (mag.log2 : Int) - ((52 : Nat) : Int)) (-1074) = place + (mag.log2 : Int) - 52 by omega]
  by_cases c : mag.log2 ≤ 52
  · -- no digit is dropped
    obtain ⟨a, ha⟩ : ∃ a, a + mag.log2 = 52 := ⟨52 - mag.log2, by omega⟩
    have e1 : (place - (place + (mag.log2 : Int) - 52)).toNat = a := by omega
    have e2 : (place + (mag.log2 : Int) - 52 - place).toNat = 0 := by omega
    have e3 : (place + (mag.log2 : Int) - 52 - -1074).toNat = (place + 1074 - a).toNat := by omega
    rw [e1, e2, e3, Nat.shiftLeft_eq]
    obtain ⟨r, hr, _, hr1, _⟩ := cut_even (mag * 2 ^ a) 0 (by omega)
    have hr0 : r = 0 := by
      by_cases q : r = 1
      · have := hr1 q
        simp [Nat.mod_one] at this
      · omega
    rw [hr, hr0, Nat.pow_zero, Nat.div_one, Nat.add_zero]
    have b1 : 4503599627370496 ≤ mag * 2 ^ a := by
      have : 2 ^ mag.log2 * 2 ^ a ≤ mag * 2 ^ a := Nat.mul_le_mul_right _ l1
      rw [← Nat.pow_add, show mag.log2 + a = 52 by omega] at this
      exact this
    have b2 : mag * 2 ^ a < 9007199254740992 := by
      have : mag * 2 ^ a < 2 ^ (mag.log2 + 1) * 2 ^ a := Nat.mul_lt_mul_of_pos_right l2 (Nat.pow_pos (by omega))
      rw [← Nat.pow_add, show mag.log2 + 1 + a = 53 by omega] at this
      exact this
    obtain ⟨m, p, hI, hv, hp1, hp2⟩ := write_norm (place + 1074 - a).toNat (mag * 2 ^ a) (by omega) b1 (by omega)
    have ev : sv m p = sv mag place := by
      rw [hv]
      unfold sv
      rw [Nat.mul_assoc, ← Nat.pow_add, show a + (place + 1074 - (a : Int)).toNat = (place + 1074).toNat by omega]
    refine ⟨m, p, hI, by omega, by omega, ?_, ?_, fun _ => ev⟩
    · rw [ev]; omega
    · rw [ev]; omega
  · -- the last b digits are dropped
    obtain ⟨b, hb⟩ : ∃ b, mag.log2 = b + 1 + 52 := ⟨mag.log2 - 53, by omega⟩
    have e1 : (place - (place + (mag.log2 : Int) - 52)).toNat = 0 := by omega
    have e2 : (place + (mag.log2 : Int) - 52 - place).toNat = b + 1 := by omega
    have e3 : (place + (mag.log2 : Int) - 52 - -1074).toNat = (place + 1074).toNat + (b + 1) := by omega
    rw [e1, e2, e3, Nat.shiftLeft_zero]
    obtain ⟨r, hr, hr2, hr1, hr0⟩ := cut_even mag (b + 1) (by omega)
    rw [hr]
    have hdm := Nat.div_add_mod mag (2 ^ (b + 1))
    have hlt : mag % 2 ^ (b + 1) < 2 ^ (b + 1) := Nat.mod_lt _ (Nat.pow_pos (by omega))
    have q1 : 4503599627370496 ≤ mag / 2 ^ (b + 1) := by
      rw [Nat.le_div_iff_mul_le (Nat.pow_pos (by omega))]
      have : (4503599627370496 : Nat) * 2 ^ (b + 1) = 2 ^ mag.log2 := by rw [hb, show b + 1 + 52 = 52 + (b + 1) by omega, Nat.pow_add 2 52]
      omega
    have q2 : mag / 2 ^ (b + 1) < 9007199254740992 := by
      rw [Nat.div_lt_iff_lt_mul (Nat.pow_pos (by omega))]
      have : (9007199254740992 : Nat) * 2 ^ (b + 1) = 2 ^ (mag.log2 + 1) := by rw [hb, show b + 1 + 52 + 1 = 53 + (b + 1) by omega, Nat.pow_add 2 53]
      omega
    obtain ⟨m, p, hI, hv, hp1, hp2⟩ := write_norm ((place + 1074).toNat + (b + 1)) (mag / 2 ^ (b + 1) + r) (by omega) (by omega) (by omega)
    have q3 : 4503599627370496 * 2 ^ (b + 1) ≤ mag := by
      have : (4503599627370496 : Nat) * 2 ^ (b + 1) = 2 ^ mag.log2 := by rw [hb, show b + 1 + 52 = 52 + (b + 1) by omega, Nat.pow_add 2 52]
      omega
    have ev : sv m p = ((mag / 2 ^ (b + 1) + r) * 2 ^ (b + 1)) * 2 ^ (place + 1074).toNat := by
      rw [hv, Nat.mul_assoc, ← Nat.pow_add, Nat.add_comm (b + 1)]
    have k1 : (mag / 2 ^ (b + 1) + r) * 2 ^ (b + 1) = 2 ^ (b + 1) * (mag / 2 ^ (b + 1)) + r * 2 ^ (b + 1) := by rw [Nat.add_mul, Nat.mul_comm (mag / 2 ^ (b + 1))]
    generalize hK : (mag / 2 ^ (b + 1) + r) * 2 ^ (b + 1) = K at ev k1
    generalize mag / 2 ^ (b + 1) = Q at *
    generalize 2 ^ (b + 1) * Q = GQ at *
    generalize mag % 2 ^ (b + 1) = M at *
    generalize 2 ^ (b + 1) = G at *
    have u1 : 9007199254740992 * K ≤ 9007199254740993 * mag ∧ 9007199254740991 * mag ≤ 9007199254740992 * K := by
      by_cases c1 : r = 1
      · have := hr1 c1
        subst c1
        omega
      · have c0 : r = 0 := by omega
        have := hr0 c0
        subst c0
        omega
    refine ⟨m, p, hI, by omega, by omega, ?_, ?_, fun h => absurd h c⟩
    · rw [ev]
      unfold sv
      have := Nat.mul_le_mul_right (2 ^ (place + 1074).toNat) u1.1
      rw [Nat.mul_assoc, Nat.mul_assoc] at this
      exact this
    · rw [ev]
      unfold sv
      have := Nat.mul_le_mul_right (2 ^ (place + 1074).toNat) u1.2
      rw [Nat.mul_assoc, Nat.mul_assoc] at this
      exact this
end Go.Proofs.Qxb6612812a.Fl
