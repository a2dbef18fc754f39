import Derived.Test.Qxb6612812aLawA
namespace Go.Proofs.Qxb6612812a
open Go.RowKit

set_option maxRecDepth 100000 in
set_option maxHeartbeats 2000000 in
theorem next_never (R T U now : Int) (a b : Nat) (W : World) (hR : R ≤ 0) (hT1 : 0 ≤ T) (hT2 : T ≤ 4611686018427387904) (hU1 : 0 ≤ U) (hU2 : U ≤ 4611686018427387904)
    (hn1 : -9223372036854775808 ≤ now) (hn2 : now ≤ 9223372036854775807) (ha : a ≤ 1099511627776) (hb : b ≤ 1099511627776) :
    Calls Try.prog 4 #[.int .i64 R, .int .i64 T, .int .i64 U, .int .i64 now, .int .i64 (a : Int), .int .i64 (b : Int)] W fun e w' => e = .returned (.bool true) ∧ Below W.heap.size W w' := by
  go_enter Try.func4, Try.ntmps4
  go_wp2_with fail
  refine (newst 0 _ (by omega) (by omega)).mono ?_
  rintro e w1 ⟨B, rfl, hl, hs, hbl⟩
  have hE1 := Env.start hbl hs hl
  clear hl hs hbl
  go_wp2_with fail
  refine (zdue_no T a hE1 hR (by omega) hT2).mono ?_
  rintro e w2 ⟨rfl, hE2⟩
  clear hE1
  generalize hV : (if 0 < T then 9223372036854775807 else T + 9223372036854775807) = V
  have HV : Hid ((if 0 < T then 9223372036854775807 else T + 9223372036854775807) = V) := hV
  clear hV
  go_wp2_with fail
  refine (zpass now a hE2 hn1 hn2).mono ?_
  rintro e w3 ⟨rfl, hE3⟩
  clear hE2
  go_wp2_with fail
  refine (zdue_no U b hE3 hR (by omega) hU2).mono ?_
  rintro e w4 ⟨rfl, hE4⟩
  clear hE3
  generalize hY : (if 0 < U then 9223372036854775807 else U + 9223372036854775807) = Y
  have HY : Hid ((if 0 < U then 9223372036854775807 else U + 9223372036854775807) = Y) := hY
  clear hY
  go_wp2_with fail
  refine (satadd T _ (by omega) hT2).mono ?_
  rintro e w8 ⟨rfl, rfl⟩
  rw [HV.out]
  go_wp2_with fail
  refine (satadd U _ (by omega) hU2).mono ?_
  rintro e w8 ⟨rfl, rfl⟩
  rw [HY.out]
  go_wp2
  go_ret
  exact ⟨rfl, hE4.below⟩

set_option maxRecDepth 100000 in
set_option maxHeartbeats 2000000 in
theorem next_pos_a (r : Nat) (T U now : Int) (a b D E : Nat) (W : World) (hr : 0 < r) (hr2 : r ≤ 9223372036854775807) (kD : Takes a r D) (kE : Takes b r E) (c : U < T + (D : Int)) (hT1 : 0 ≤ T) (hT2 : T ≤ 4611686018427387904) (hU1 : 0 ≤ U) (hU2 : U ≤ 4611686018427387904)
    (hn1 : -9223372036854775808 ≤ now) (hn2 : now ≤ 9223372036854775807) (ha : a ≤ 1099511627776) (hb : b ≤ 1099511627776) :
    Calls Try.prog 4 #[.int .i64 (r : Int), .int .i64 T, .int .i64 U, .int .i64 now, .int .i64 (a : Int), .int .i64 (b : Int)] W fun e w' => e = .returned (.bool true) ∧ Below W.heap.size W w' := by
  have dD := kD.db
  have dE := kE.db
  obtain ⟨x, y, ex, ey, x1, y1, n1, n2, n3, n4⟩ : ∃ x y : Nat, a * 1000000 / r = x ∧ b * 1000000 / r = y ∧ x ≤ 1099511627776000000 ∧ y ≤ 1099511627776000000 ∧ D ≤ x + 2 + x / 281474976710656 ∧ x ≤ D + 2 + x / 281474976710656 ∧ E ≤ y + 2 + y / 281474976710656 ∧ y ≤ E + 2 + y / 281474976710656 :=
    ⟨_, _, rfl, rfl, kD.xb, kE.xb, kD.hi, kD.lo, kE.hi, kE.lo⟩
  have HX : Hid (a * 1000000 / r = x) := ex
  have HY : Hid (b * 1000000 / r = y) := ey
  clear ex ey
  have hr' : 0 < (r : Int) := by omega
  go_enter Try.func4, Try.ntmps4
  go_wp2_with fail
  refine (newst 0 _ (by omega) (by omega)).mono ?_
  rintro e w1 ⟨B, rfl, hl, hs, hbl⟩
  have hE1 := Env.start hbl hs hl
  clear hl hs hbl
  go_wp2_with fail
  refine (zdue_at T T hE1 kD hr (.inr ⟨hT1, rfl⟩) (by omega) (by omega) (by omega) hT2).mono ?_
  rintro e w2 ⟨rfl, hE2⟩
  clear hE1
  go_wp2_with fail
  refine (zpass now a hE2 hn1 hn2).mono ?_
  rintro e w3 ⟨rfl, hE3⟩
  clear hE2
  go_wp2_with fail
  refine (zdue_at (T + (D : Int)) U hE3 kE hr (.inl ⟨c, rfl⟩) (by omega) (by omega) (by omega) hU2).mono ?_
  rintro e w4 ⟨rfl, hE4⟩
  clear hE3
  go_wp2_with fail
  refine (transmit a r _ ha hr hr2).mono ?_
  rintro e w8 ⟨rfl, rfl⟩
  rw [HX.out]
  go_wp2_with fail
  refine (transmit b r _ hb hr hr2).mono ?_
  rintro e w8 ⟨rfl, rfl⟩
  rw [HY.out]
  go_wp2_with fail
  refine (tol x _ (by omega) (by omega)).mono ?_
  rintro e w8 ⟨rfl, rfl⟩
  go_wp2_with fail
  refine (nearw _ _ _ _ (by omega) (by omega) (by omega) (by omega) (by omega) (by omega)).mono ?_
  rintro e w8 ⟨rfl, rfl⟩
  go_wp2_with fail
  refine (tol y _ (by omega) (by omega)).mono ?_
  rintro e w8 ⟨rfl, rfl⟩
  go_wp2_with fail
  refine (nearw _ _ _ _ (by omega) (by omega) (by omega) (by omega) (by omega) (by omega)).mono ?_
  rintro e w8 ⟨rfl, rfl⟩
  have hle : decide (T + (D : Int) ≤ T + (D : Int) + (E : Int)) = true := decide_eq_true (by omega)
  have hle2 : decide (U ≤ T + (D : Int) + (E : Int)) = true := decide_eq_true (by omega)
  go_wp2
  go_ret
  exact ⟨rfl, hE4.below⟩

set_option maxRecDepth 100000 in
set_option maxHeartbeats 2000000 in
theorem next_pos_b (r : Nat) (T U now : Int) (a b D E : Nat) (W : World) (hr : 0 < r) (hr2 : r ≤ 9223372036854775807) (kD : Takes a r D) (kE : Takes b r E) (c : T + (D : Int) ≤ U) (hT1 : 0 ≤ T) (hT2 : T ≤ 4611686018427387904) (hU1 : 0 ≤ U) (hU2 : U ≤ 4611686018427387904)
    (hn1 : -9223372036854775808 ≤ now) (hn2 : now ≤ 9223372036854775807) (ha : a ≤ 1099511627776) (hb : b ≤ 1099511627776) :
    Calls Try.prog 4 #[.int .i64 (r : Int), .int .i64 T, .int .i64 U, .int .i64 now, .int .i64 (a : Int), .int .i64 (b : Int)] W fun e w' => e = .returned (.bool true) ∧ Below W.heap.size W w' := by
  have dD := kD.db
  have dE := kE.db
  obtain ⟨x, y, ex, ey, x1, y1, n1, n2, n3, n4⟩ : ∃ x y : Nat, a * 1000000 / r = x ∧ b * 1000000 / r = y ∧ x ≤ 1099511627776000000 ∧ y ≤ 1099511627776000000 ∧ D ≤ x + 2 + x / 281474976710656 ∧ x ≤ D + 2 + x / 281474976710656 ∧ E ≤ y + 2 + y / 281474976710656 ∧ y ≤ E + 2 + y / 281474976710656 :=
    ⟨_, _, rfl, rfl, kD.xb, kE.xb, kD.hi, kD.lo, kE.hi, kE.lo⟩
  have HX : Hid (a * 1000000 / r = x) := ex
  have HY : Hid (b * 1000000 / r = y) := ey
  clear ex ey
  have hr' : 0 < (r : Int) := by omega
  go_enter Try.func4, Try.ntmps4
  go_wp2_with fail
  refine (newst 0 _ (by omega) (by omega)).mono ?_
  rintro e w1 ⟨B, rfl, hl, hs, hbl⟩
  have hE1 := Env.start hbl hs hl
  clear hl hs hbl
  go_wp2_with fail
  refine (zdue_at T T hE1 kD hr (.inr ⟨hT1, rfl⟩) (by omega) (by omega) (by omega) hT2).mono ?_
  rintro e w2 ⟨rfl, hE2⟩
  clear hE1
  go_wp2_with fail
  refine (zpass now a hE2 hn1 hn2).mono ?_
  rintro e w3 ⟨rfl, hE3⟩
  clear hE2
  go_wp2_with fail
  refine (zdue_at (U) U hE3 kE hr (.inr ⟨c, rfl⟩) (by omega) (by omega) (by omega) hU2).mono ?_
  rintro e w4 ⟨rfl, hE4⟩
  clear hE3
  go_wp2_with fail
  refine (transmit a r _ ha hr hr2).mono ?_
  rintro e w8 ⟨rfl, rfl⟩
  rw [HX.out]
  go_wp2_with fail
  refine (transmit b r _ hb hr hr2).mono ?_
  rintro e w8 ⟨rfl, rfl⟩
  rw [HY.out]
  go_wp2_with fail
  refine (tol x _ (by omega) (by omega)).mono ?_
  rintro e w8 ⟨rfl, rfl⟩
  go_wp2_with fail
  refine (nearw _ _ _ _ (by omega) (by omega) (by omega) (by omega) (by omega) (by omega)).mono ?_
  rintro e w8 ⟨rfl, rfl⟩
  go_wp2_with fail
  refine (tol y _ (by omega) (by omega)).mono ?_
  rintro e w8 ⟨rfl, rfl⟩
  go_wp2_with fail
  refine (nearw _ _ _ _ (by omega) (by omega) (by omega) (by omega) (by omega) (by omega)).mono ?_
  rintro e w8 ⟨rfl, rfl⟩
  have hle : decide (T + (D : Int) ≤ U + (E : Int)) = true := decide_eq_true (by omega)
  have hle2 : decide (U ≤ U + (E : Int)) = true := decide_eq_true (by omega)
  go_wp2
  go_ret
  exact ⟨rfl, hE4.below⟩


set_option maxRecDepth 100000 in
set_option maxHeartbeats 2000000 in
/-- Outside the law's bounds it answers true at once. -/
theorem next_outside (R T U now a b : Int) (W : World)
    (h : T < 0 ∨ (0 ≤ T ∧ 4611686018427387904 < T) ∨ (0 ≤ T ∧ T ≤ 4611686018427387904 ∧ U < 0) ∨ (0 ≤ T ∧ T ≤ 4611686018427387904 ∧ 0 ≤ U ∧ 4611686018427387904 < U) ∨
      (0 ≤ T ∧ T ≤ 4611686018427387904 ∧ 0 ≤ U ∧ U ≤ 4611686018427387904 ∧ (a < 0 ∨ (0 ≤ a ∧ b < 0) ∨ (0 ≤ a ∧ 0 ≤ b ∧ 1099511627776 < a) ∨ (0 ≤ a ∧ 0 ≤ b ∧ a ≤ 1099511627776 ∧ 1099511627776 < b)))) :
    Calls Try.prog 4 #[.int .i64 R, .int .i64 T, .int .i64 U, .int .i64 now, .int .i64 a, .int .i64 b] W fun e w' => e = .returned (.bool true) ∧ w' = W := by
  rcases h with h1 | ⟨h1, h2⟩ | ⟨h1, h2, h3⟩ | ⟨h1, h2, h3, h4⟩ | ⟨h1, h2, h3, h4, h5 | ⟨h5, h6⟩ | ⟨h5, h6, h7⟩ | ⟨h5, h6, h7, h8⟩⟩
  all_goals
    go_enter Try.func4, Try.ntmps4
    go_wp2
    go_ret
    exact ⟨rfl, rfl⟩

theorem next_any (R T U now a b : Int) (W : World) (hR2 : R ≤ 9223372036854775807) (hn1 : -9223372036854775808 ≤ now) (hn2 : now ≤ 9223372036854775807) :
    Calls Try.prog 4 #[.int .i64 R, .int .i64 T, .int .i64 U, .int .i64 now, .int .i64 a, .int .i64 b] W fun e w' => e = .returned (.bool true) ∧ Below W.heap.size W w' := by
  by_cases hin : 0 ≤ T ∧ T ≤ 4611686018427387904 ∧ 0 ≤ U ∧ U ≤ 4611686018427387904 ∧ 0 ≤ a ∧ 0 ≤ b ∧ a ≤ 1099511627776 ∧ b ≤ 1099511627776
  · obtain ⟨h1, h2, h3, h4, h5, h6, h7, h8⟩ := hin
    obtain ⟨an, rfl⟩ := Int.eq_ofNat_of_zero_le h5
    obtain ⟨bn, rfl⟩ := Int.eq_ofNat_of_zero_le h6
    by_cases hR : R ≤ 0
    · exact next_never R T U now an bn W hR h1 h2 h3 h4 hn1 hn2 (by omega) (by omega)
    · obtain ⟨r, rfl⟩ := Int.eq_ofNat_of_zero_le (show 0 ≤ R by omega)
      obtain ⟨D, kD⟩ := takes an r (by omega) (by omega) (by omega)
      obtain ⟨E, kE⟩ := takes bn r (by omega) (by omega) (by omega)
      by_cases c : U < T + (D : Int)
      · exact next_pos_a r T U now an bn D E W (by omega) (by omega) kD kE c h1 h2 h3 h4 hn1 hn2 (by omega) (by omega)
      · exact next_pos_b r T U now an bn D E W (by omega) (by omega) kD kE (by omega) h1 h2 h3 h4 hn1 hn2 (by omega) (by omega)
  · refine (next_outside R T U now a b W (by omega)).mono ?_
    rintro e w' ⟨he, rfl⟩
    exact ⟨he, Below.refl _ _⟩
end Go.Proofs.Qxb6612812a
