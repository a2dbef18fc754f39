import Derived.Test.Qxb6612812aLawB
namespace Go.Proofs.Qxb6612812a
open Go.RowKit

set_option maxRecDepth 100000 in
set_option maxHeartbeats 2000000 in
theorem split_pos_a (r : Nat) (F T : Int) (a b : Nat) (W : World) (hr : 0 < r) (hr2 : r ≤ 9223372036854775807) (c : T < F) (hF1 : -4611686018427387904 ≤ F) (hF2 : F ≤ 4611686018427387904) (hT1 : -4611686018427387904 ≤ T) (hT2 : T ≤ 4611686018427387904) (ha : a ≤ 549755813888) (hb : b ≤ 549755813888) :
    Calls Try.prog 3 #[.int .i64 (r : Int), .int .i64 F, .int .i64 T, .int .i64 (a : Int), .int .i64 (b : Int)] W fun e w' => e = .returned (.bool true) ∧ Below W.heap.size W w' := by
  obtain ⟨D, kD⟩ := takes a r (by omega) hr hr2
  obtain ⟨E, kE⟩ := takes b r (by omega) hr hr2
  obtain ⟨H, kH⟩ := takes (a + b) r (by omega) hr hr2
  have dD := kD.db
  have dE := kE.db
  have dH := kH.db
  obtain ⟨x, z, ex, ez, x1, z1, n1, n2, n3, n4, n5, n6⟩ := split_nums hr kD kE kH
  have HX : Hid (a * 1000000 / r = x) := ex
  have HZ : Hid ((a + b) * 1000000 / r = z) := ez
  clear ex ez
  have hr' : 0 < (r : Int) := by omega
  go_enter Try.func3, Try.ntmps3
  go_wp2_with fail
  refine (newst F _ hF1 hF2).mono ?_
  rintro e w1 ⟨B, rfl, hl, hs, hbl⟩
  have hE1 := Env.start hbl hs hl
  clear hl hs hbl
  go_wp2_with fail
  refine (zdue_at F T hE1 kD hr (.inl ⟨c, rfl⟩) hF1 (by omega) hT1 hT2).mono ?_
  rintro e w2 ⟨rfl, hE2⟩
  clear hE1
  go_wp2_with fail
  refine (zpass T a hE2 (by omega) (by omega)).mono ?_
  rintro e w3 ⟨rfl, hE3⟩
  clear hE2
  go_wp2_with fail
  refine (zfree B _ _ _ hE3.st (by omega) (by omega)).mono ?_
  rintro e w4 ⟨rfl, hb4⟩
  have hE4 := hE3.later hb4
  clear hE3 hb4
  go_wp2_with fail
  refine (zdue_at (F + D) T hE4 kE hr (by omega) (by omega) (by omega) hT1 hT2).mono ?_
  rintro e w5 ⟨rfl, hE5⟩
  clear hE4
  go_wp2_with fail
  refine (newst F _ hF1 hF2).mono ?_
  rintro e w6 ⟨B2, rfl, hl, hs, hbl⟩
  have hE6 := hE5.second hbl hs hl
  clear hl hs hbl hE5
  go_wp2_with fail
  rw [show (a : Int) + (b : Int) = ((a + b : Nat) : Int) by omega]
  refine (zdue_at F T hE6 kH hr (.inl ⟨c, rfl⟩) hF1 (by omega) hT1 hT2).mono ?_
  rintro e w7 ⟨rfl, hE7⟩
  clear hE6
  go_wp2_with fail
  refine (transmit a r _ (by omega) hr hr2).mono ?_
  rintro e w8 ⟨rfl, rfl⟩
  rw [HX.out]
  go_wp2_with fail
  rw [show (a : Int) + (b : Int) = ((a + b : Nat) : Int) by omega]
  refine (transmit (a + b) r _ (by omega) hr hr2).mono ?_
  rintro e w8 ⟨rfl, rfl⟩
  rw [HZ.out]
  go_wp2_with fail
  refine (tol x _ (by omega) (by omega)).mono ?_
  rintro e w8 ⟨rfl, rfl⟩
  go_wp2_with fail
  refine (nearw _ _ _ _ (by omega) (by omega) (by omega) (by omega) (by omega) (by omega)).mono ?_
  rintro e w8 ⟨rfl, rfl⟩
  go_wp2_with fail
  refine (tol z _ (by omega) (by omega)).mono ?_
  rintro e w8 ⟨rfl, rfl⟩
  go_wp2_with fail
  refine (nearw _ _ _ _ (by omega) (by omega) (by omega) (by omega) (by omega) (by omega)).mono ?_
  rintro e w8 ⟨rfl, rfl⟩
  go_wp2_with fail
  refine (tol z _ (by omega) (by omega)).mono ?_
  rintro e w8 ⟨rfl, rfl⟩
  go_wp2_with fail
  refine (nearw _ _ _ _ (by omega) (by omega) (by omega) (by omega) (by omega) (by omega)).mono ?_
  rintro e w8 ⟨rfl, rfl⟩
  have hle : decide (F + (D : Int) ≤ F + (D : Int) + (E : Int)) = true := decide_eq_true (by omega)
  go_wp2
  go_ret
  exact ⟨rfl, hE7.below⟩

set_option maxRecDepth 100000 in
set_option maxHeartbeats 2000000 in
theorem split_pos_b (r : Nat) (F T : Int) (a b : Nat) (W : World) (hr : 0 < r) (hr2 : r ≤ 9223372036854775807) (c : F ≤ T) (hF1 : -4611686018427387904 ≤ F) (hF2 : F ≤ 4611686018427387904) (hT1 : -4611686018427387904 ≤ T) (hT2 : T ≤ 4611686018427387904) (ha : a ≤ 549755813888) (hb : b ≤ 549755813888) :
    Calls Try.prog 3 #[.int .i64 (r : Int), .int .i64 F, .int .i64 T, .int .i64 (a : Int), .int .i64 (b : Int)] W fun e w' => e = .returned (.bool true) ∧ Below W.heap.size W w' := by
  obtain ⟨D, kD⟩ := takes a r (by omega) hr hr2
  obtain ⟨E, kE⟩ := takes b r (by omega) hr hr2
  obtain ⟨H, kH⟩ := takes (a + b) r (by omega) hr hr2
  have dD := kD.db
  have dE := kE.db
  have dH := kH.db
  obtain ⟨x, z, ex, ez, x1, z1, n1, n2, n3, n4, n5, n6⟩ := split_nums hr kD kE kH
  have HX : Hid (a * 1000000 / r = x) := ex
  have HZ : Hid ((a + b) * 1000000 / r = z) := ez
  clear ex ez
  have hr' : 0 < (r : Int) := by omega
  go_enter Try.func3, Try.ntmps3
  go_wp2_with fail
  refine (newst F _ hF1 hF2).mono ?_
  rintro e w1 ⟨B, rfl, hl, hs, hbl⟩
  have hE1 := Env.start hbl hs hl
  clear hl hs hbl
  go_wp2_with fail
  refine (zdue_at T T hE1 kD hr (.inr ⟨c, rfl⟩) hF1 (by omega) hT1 hT2).mono ?_
  rintro e w2 ⟨rfl, hE2⟩
  clear hE1
  go_wp2_with fail
  refine (zpass T a hE2 (by omega) (by omega)).mono ?_
  rintro e w3 ⟨rfl, hE3⟩
  clear hE2
  go_wp2_with fail
  refine (zfree B _ _ _ hE3.st (by omega) (by omega)).mono ?_
  rintro e w4 ⟨rfl, hb4⟩
  have hE4 := hE3.later hb4
  clear hE3 hb4
  go_wp2_with fail
  refine (zdue_at (T + D) T hE4 kE hr (by omega) (by omega) (by omega) hT1 hT2).mono ?_
  rintro e w5 ⟨rfl, hE5⟩
  clear hE4
  go_wp2_with fail
  refine (newst F _ hF1 hF2).mono ?_
  rintro e w6 ⟨B2, rfl, hl, hs, hbl⟩
  have hE6 := hE5.second hbl hs hl
  clear hl hs hbl hE5
  go_wp2_with fail
  rw [show (a : Int) + (b : Int) = ((a + b : Nat) : Int) by omega]
  refine (zdue_at T T hE6 kH hr (.inr ⟨c, rfl⟩) hF1 (by omega) hT1 hT2).mono ?_
  rintro e w7 ⟨rfl, hE7⟩
  clear hE6
  go_wp2_with fail
  refine (transmit a r _ (by omega) hr hr2).mono ?_
  rintro e w8 ⟨rfl, rfl⟩
  rw [HX.out]
  go_wp2_with fail
  rw [show (a : Int) + (b : Int) = ((a + b : Nat) : Int) by omega]
  refine (transmit (a + b) r _ (by omega) hr hr2).mono ?_
  rintro e w8 ⟨rfl, rfl⟩
  rw [HZ.out]
  go_wp2_with fail
  refine (tol x _ (by omega) (by omega)).mono ?_
  rintro e w8 ⟨rfl, rfl⟩
  go_wp2_with fail
  refine (nearw _ _ _ _ (by omega) (by omega) (by omega) (by omega) (by omega) (by omega)).mono ?_
  rintro e w8 ⟨rfl, rfl⟩
  go_wp2_with fail
  refine (tol z _ (by omega) (by omega)).mono ?_
  rintro e w8 ⟨rfl, rfl⟩
  go_wp2_with fail
  refine (nearw _ _ _ _ (by omega) (by omega) (by omega) (by omega) (by omega) (by omega)).mono ?_
  rintro e w8 ⟨rfl, rfl⟩
  go_wp2_with fail
  refine (tol z _ (by omega) (by omega)).mono ?_
  rintro e w8 ⟨rfl, rfl⟩
  go_wp2_with fail
  refine (nearw _ _ _ _ (by omega) (by omega) (by omega) (by omega) (by omega) (by omega)).mono ?_
  rintro e w8 ⟨rfl, rfl⟩
  have hle : decide (T + (D : Int) ≤ T + (D : Int) + (E : Int)) = true := decide_eq_true (by omega)
  go_wp2
  go_ret
  exact ⟨rfl, hE7.below⟩

end Go.Proofs.Qxb6612812a
