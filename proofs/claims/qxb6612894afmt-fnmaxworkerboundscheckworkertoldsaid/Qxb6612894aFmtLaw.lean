import Derived.Test.Qxb6612894aFmtWalkE
namespace Go.Proofs.Qxb6612894aFmt
open Go.RowKit Go.Extern.Stop Go.Stop Go.Extern

theorem pow_cast (k : Nat) : (2 : Int) ^ k = ((2 ^ k : Nat) : Int) := by rw [Int.natCast_pow]; rfl
theorem pow_bounds {k : Nat} (h1 : 1 ≤ k) (h2 : k ≤ 62) : 2 ≤ (2 : Int) ^ k ∧ (2 : Int) ^ k ≤ 4611686018427387904 := by
  have a : 2 ^ 1 ≤ 2 ^ k := Nat.pow_le_pow_right (by omega) h1
  have b : 2 ^ k ≤ 2 ^ 62 := Nat.pow_le_pow_right (by omega) h2
  rw [pow_cast]
  omega
theorem quo_pow {n : Nat} (h : n ≤ 63) : 9223372036854775807 / (2 : Int) ^ n = (2 : Int) ^ (63 - n) - 1 := by
  have e : 2 ^ n * 2 ^ (63 - n) = 2 ^ 63 := by rw [← Nat.pow_add, show n + (63 - n) = 63 by omega]
  have hp : 0 < 2 ^ n := Nat.pow_pos (by omega)
  have hq : 0 < 2 ^ (63 - n) := Nat.pow_pos (by omega)
  rw [pow_cast, pow_cast]
  generalize 2 ^ n = G at *
  generalize 2 ^ (63 - n) = Q at *
  have hdiv : 9223372036854775807 / G = Q - 1 := by
    have e2 : G * (Q - 1) + G = G * Q := by
      rw [← Nat.mul_succ, show (Q - 1).succ = Q by omega]
    rw [show 9223372036854775807 = (G - 1) + G * (Q - 1) by omega, Nat.add_mul_div_left _ _ hp, Nat.div_eq_of_lt (by omega), Nat.zero_add]
  have : (9223372036854775807 : Int) / (G : Int) = ((9223372036854775807 / G : Nat) : Int) := by rw [Int.natCast_ediv]; rfl
  rw [this, hdiv]
  omega
theorem pow_mono {a c : Nat} (h : a ≤ c) : (2 : Int) ^ a ≤ (2 : Int) ^ c := by
  have : 2 ^ a ≤ 2 ^ c := Nat.pow_le_pow_right (by omega) h
  rw [pow_cast, pow_cast]
  omega
theorem pow_pos (a : Nat) : 1 ≤ (2 : Int) ^ a := by
  have : 0 < 2 ^ a := Nat.pow_pos (by omega)
  rw [pow_cast]
  omega

/-- Not the whole of 64 bits with the worker on top: every value of the field. -/
theorem known_mid (t b s : Int) (tp : Bool) (ht : 1 ≤ t) (hb : 1 ≤ b) (hs : 1 ≤ s) (h : t + b + s ≤ 64) (htp : tp = false ∨ (t + b + s == 64) = false) : Known t b s tp ((2 : Int) ^ b.toNat - 1) := by
  obtain ⟨p1, p2⟩ := pow_bounds (k := b.toNat) (by omega) (by omega)
  refine ⟨fun w => ?_, fun w => want_mid t b s _ tp w ht hb hs h htp rfl p1 p2⟩
  cases tp with
  | false =>
    refine (lay_mid t b s w ht hb hs h).mono ?_
    rintro e w' ⟨lb, fb, nm, he, hL, hbl⟩
    have hq := quo_pow (n := s.toNat) (by omega)
    have hm := pow_mono (a := b.toNat) (c := 63 - s.toNat) (by omega)
    have hm2 := pow_mono (a := 63 - s.toNat) (c := 62) (by omega)
    exact ⟨lb, fb, 1, nm, s, he, hL, fun w2 hL2 => maxw1 lb fb nm b s _ _ w2 hL2 hb (by omega) (by omega) (by omega) rfl p1 p2 hq (by omega) (by omega) (by omega), hbl⟩
  | true =>
    have hne : t + b + s ≠ 64 := by
      rcases htp with h1 | h1
      · cases h1
      · simpa using h1
    refine (lay_top t b s w ht hb hs h).mono ?_
    rintro e w' ⟨lb, fb, nm, he, hL, hbl⟩
    have hq := quo_pow (n := (t + s).toNat) (by omega)
    have hm := pow_mono (a := b.toNat) (c := 63 - (t + s).toNat) (by omega)
    have hm2 := pow_mono (a := 63 - (t + s).toNat) (c := 62) (by omega)
    exact ⟨lb, fb, 0, nm, t + s, he, hL, fun w2 hL2 => maxw0 lb fb nm b (t + s) _ _ w2 hL2 hb (by omega) (by omega) (by omega) rfl p1 p2 hq (by omega) (by omega) (by omega), hbl⟩

/-- The worker on top of a layout of 64 bits: its top bit is left out. -/
theorem known_top (t b s : Int) (ht : 1 ≤ t) (hb : 1 ≤ b) (hs : 1 ≤ s) (h : t + b + s = 64) : Known t b s true ((2 : Int) ^ (b.toNat - 1) - 1) := by
  obtain ⟨p1, p2⟩ := pow_bounds (k := b.toNat) (by omega) (by omega)
  have g1 := pow_pos (b.toNat - 1)
  have g2 := pow_mono (a := b.toNat - 1) (c := b.toNat) (by omega)
  have hd : (2 : Int) ^ b.toNat = 2 * (2 : Int) ^ (b.toNat - 1) := by
    obtain ⟨k, hk⟩ : ∃ k, b.toNat = k + 1 := ⟨b.toNat - 1, by omega⟩
    rw [hk, Int.pow_succ, Nat.add_sub_cancel, Int.mul_comm]
  refine ⟨fun w => ?_, fun w => want_top t b s _ w ht hb hs (by omega) (by simp; omega) rfl g1 (by omega)⟩
  refine (lay_top t b s w ht hb hs (by omega)).mono ?_
  rintro e w' ⟨lb, fb, nm, he, hL, hbl⟩
  have hq := quo_pow (n := (t + s).toNat) (by omega)
  rw [show 63 - (t + s).toNat = b.toNat - 1 by omega] at hq
  exact ⟨lb, fb, 0, nm, t + s, he, hL, fun w2 hL2 => maxw0b lb fb nm b (t + s) _ _ w2 hL2 hb (by omega) (by omega) (by omega) rfl p1 p2 hq (by omega) (by omega) (by omega), hbl⟩

set_option maxRecDepth 100000 in
set_option maxHeartbeats 2000000 in
/-- Outside the law's bounds it answers true at once. -/
theorem law_outside (t b s x : Int) (tp : Bool) (w : World)
    (h : t < 1 ∨ (1 ≤ t ∧ b < 1) ∨ (1 ≤ t ∧ 1 ≤ b ∧ s < 1) ∨ (1 ≤ t ∧ 1 ≤ b ∧ 1 ≤ s ∧ 64 < t) ∨ (1 ≤ t ∧ 1 ≤ b ∧ 1 ≤ s ∧ t ≤ 64 ∧ 64 < b) ∨ (1 ≤ t ∧ 1 ≤ b ∧ 1 ≤ s ∧ t ≤ 64 ∧ b ≤ 64 ∧ 64 < s) ∨ (1 ≤ t ∧ 1 ≤ b ∧ 1 ≤ s ∧ t ≤ 64 ∧ b ≤ 64 ∧ s ≤ 64 ∧ 64 < t + b + s)) :
    Calls Tryf.prog 3 #[.int .i64 t, .int .i64 b, .int .i64 s, .bool tp, .int .i64 x] w fun e w' => e = .returned (.bool true) ∧ w' = w := by
  rcases h with h1 | ⟨h1, h2⟩ | ⟨h1, h2, h3⟩ | ⟨h1, h2, h3, h4⟩ | ⟨h1, h2, h3, h4, h5⟩ | ⟨h1, h2, h3, h4, h5, h6⟩ | ⟨h1, h2, h3, h4, h5, h6, h7⟩
  all_goals
    go_enter Tryf.func3, Tryf.ntmps3
    go_wp2
    go_ret
    exact ⟨rfl, rfl⟩

theorem law_any (F : Interp) (t b s x : Int) (tp : Bool) (w : World) (hF : F.answers w.tape) :
    Calls Tryf.prog 3 #[.int .i64 t, .int .i64 b, .int .i64 s, .bool tp, .int .i64 x] w fun e w' => e = .returned (.bool true) ∧ Below w.heap.size w w' := by
  by_cases hin : 1 ≤ t ∧ 1 ≤ b ∧ 1 ≤ s ∧ t + b + s ≤ 64
  · obtain ⟨ht, hb, hs, h⟩ := hin
    by_cases hc : tp = true ∧ t + b + s = 64
    · obtain ⟨rfl, he⟩ := hc
      exact law_in F t b s x _ true w hF (known_top t b s ht hb hs he) ht hb hs h
    · refine law_in F t b s x _ tp w hF (known_mid t b s tp ht hb hs h ?_) ht hb hs h
      cases tp with
      | false => exact .inl rfl
      | true => exact .inr (by simp; intro e; exact hc ⟨rfl, e⟩)
  · refine (law_outside t b s x tp w (by omega)).mono ?_
    rintro e w' ⟨he, rfl⟩
    exact ⟨he, Below.refl _ _⟩
end Go.Proofs.Qxb6612894aFmt
