import Derived.Test.Qxb6612812aLawA
namespace Go.Proofs.Qxb6612812a
open Go.RowKit

set_option maxRecDepth 100000 in
set_option maxHeartbeats 2000000 in
theorem split_never (R F T : Int) (a b : Nat) (W : World) (hR : R ≤ 0) (hF1 : -4611686018427387904 ≤ F) (hF2 : F ≤ 4611686018427387904) (hT1 : -4611686018427387904 ≤ T) (hT2 : T ≤ 4611686018427387904) (ha : a ≤ 549755813888) (hb : b ≤ 549755813888) :
    Calls Try.prog 3 #[.int .i64 R, .int .i64 F, .int .i64 T, .int .i64 (a : Int), .int .i64 (b : Int)] W fun e w' => e = .returned (.bool true) ∧ Below W.heap.size W w' := by
  go_enter Try.func3, Try.ntmps3
  go_wp2_with fail
  refine (newst F _ hF1 hF2).mono ?_
  rintro e w1 ⟨B, rfl, hl, hs, hbl⟩
  have hE1 := Env.start hbl hs hl
  clear hl hs hbl
  go_wp2_with fail
  refine (zdue_no T a hE1 hR hT1 hT2).mono ?_
  rintro e w2 ⟨rfl, hE2⟩
  clear hE1
  generalize hV : (if 0 < T then 9223372036854775807 else T + 9223372036854775807) = V
  have HV : Hid ((if 0 < T then 9223372036854775807 else T + 9223372036854775807) = V) := hV
  clear hV
  go_wp2_with fail
  refine (zpass T a hE2 (by omega) (by omega)).mono ?_
  rintro e w3 ⟨rfl, hE3⟩
  clear hE2
  go_wp2_with fail
  refine (zfree B 0 0 _ hE3.st (by omega) (by omega)).mono ?_
  rintro e w4 ⟨rfl, hb4⟩
  have hE4 := hE3.later hb4
  clear hE3 hb4
  go_wp2_with fail
  refine (zdue_no T b hE4 hR hT1 hT2).mono ?_
  rintro e w5 ⟨rfl, hE5⟩
  rw [HV.out]
  clear hE4
  go_wp2_with fail
  refine (newst F _ hF1 hF2).mono ?_
  rintro e w6 ⟨B2, rfl, hl, hs, hbl⟩
  have hE6 := hE5.second hbl hs hl
  clear hl hs hbl hE5
  go_wp2_with fail
  refine (zdue_no T _ hE6 hR hT1 hT2).mono ?_
  rintro e w7 ⟨rfl, hE7⟩
  rw [HV.out]
  clear hE6
  go_wp2_with fail
  refine (satadd T _ hT1 hT2).mono ?_
  rintro e w8 ⟨rfl, rfl⟩
  rw [HV.out]
  go_wp2
  go_ret
  exact ⟨rfl, hE7.below⟩

theorem div_two (A B : Nat) {r : Nat} (hr : 0 < r) : A / r + B / r ≤ (A + B) / r ∧ (A + B) / r ≤ A / r + B / r + 1 := by
  have a1 := Nat.div_mul_le_self A r
  have a2 := Fl.lt_div_succ A hr
  have b1 := Nat.div_mul_le_self B r
  have b2 := Fl.lt_div_succ B hr
  generalize A / r = x at *
  generalize B / r = y at *
  refine ⟨(Nat.le_div_iff_mul_le hr).2 (by rw [Nat.add_mul]; omega), ?_⟩
  have : (A + B) / r < x + y + 2 := (Nat.div_lt_iff_lt_mul hr).2 (by
    rw [show x + y + 2 = (x + 1) + (y + 1) by omega, Nat.add_mul]
    omega)
  omega

theorem split_arith (x y z D E : Nat) (h1 : D ≤ x + 2 + x / 281474976710656) (h2 : x ≤ D + 2 + x / 281474976710656) (h3 : E ≤ y + 2 + y / 281474976710656) (h4 : y ≤ E + 2 + y / 281474976710656) (h5 : x + y ≤ z) (h6 : z ≤ x + y + 1) :
    D + E ≤ z + 5 + z / 281474976710656 ∧ z ≤ D + E + 5 + z / 281474976710656 := by omega

/-- The numbers of the law, once the floats are known: D, E, H nanoseconds for a, b and a + b bytes. -/
theorem split_nums {a b r D E H : Nat} (hr : 0 < r) (kD : Takes a r D) (kE : Takes b r E) (kH : Takes (a + b) r H) :
    ∃ x z : Nat, a * 1000000 / r = x ∧ (a + b) * 1000000 / r = z ∧ x ≤ 1099511627776000000 ∧ z ≤ 1099511627776000000 ∧ D ≤ x + 2 + x / 281474976710656 ∧ x ≤ D + 2 + x / 281474976710656 ∧ H ≤ z + 2 + z / 281474976710656 ∧ z ≤ H + 2 + z / 281474976710656 ∧
      D + E ≤ z + 5 + z / 281474976710656 ∧ z ≤ D + E + 5 + z / 281474976710656 := by
  have hd := div_two (a * 1000000) (b * 1000000) hr
  rw [← Nat.add_mul] at hd
  have hs := split_arith (a * 1000000 / r) (b * 1000000 / r) ((a + b) * 1000000 / r) D E kD.hi kD.lo kE.hi kE.lo hd.1 hd.2
  exact ⟨_, _, rfl, rfl, kD.xb, kH.xb, kD.hi, kD.lo, kH.hi, kH.lo, hs.1, hs.2⟩

end Go.Proofs.Qxb6612812a
