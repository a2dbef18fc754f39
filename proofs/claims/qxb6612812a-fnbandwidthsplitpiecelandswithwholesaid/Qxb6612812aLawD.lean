import Derived.Test.Qxb6612812aLawC
namespace Go.Proofs.Qxb6612812a
open Go.RowKit

set_option maxRecDepth 100000 in
set_option maxHeartbeats 2000000 in
/-- Outside the law's bounds it answers true at once. -/
theorem split_outside (R F T a b : Int) (W : World)
    (h : F < -4611686018427387904 ∨ (-4611686018427387904 ≤ F ∧ 4611686018427387904 < F) ∨ (-4611686018427387904 ≤ F ∧ F ≤ 4611686018427387904 ∧ T < -4611686018427387904) ∨
      (-4611686018427387904 ≤ F ∧ F ≤ 4611686018427387904 ∧ -4611686018427387904 ≤ T ∧ 4611686018427387904 < T) ∨
      (-4611686018427387904 ≤ F ∧ F ≤ 4611686018427387904 ∧ -4611686018427387904 ≤ T ∧ T ≤ 4611686018427387904 ∧ (a < 0 ∨ (0 ≤ a ∧ b < 0) ∨ (0 ≤ a ∧ 0 ≤ b ∧ 549755813888 < a) ∨ (0 ≤ a ∧ 0 ≤ b ∧ a ≤ 549755813888 ∧ 549755813888 < b)))) :
    Calls Try.prog 3 #[.int .i64 R, .int .i64 F, .int .i64 T, .int .i64 a, .int .i64 b] W fun e w' => e = .returned (.bool true) ∧ w' = W := by
  rcases h with h1 | ⟨h1, h2⟩ | ⟨h1, h2, h3⟩ | ⟨h1, h2, h3, h4⟩ | ⟨h1, h2, h3, h4, h5 | ⟨h5, h6⟩ | ⟨h5, h6, h7⟩ | ⟨h5, h6, h7, h8⟩⟩
  all_goals
    go_enter Try.func3, Try.ntmps3
    go_wp2
    go_ret
    exact ⟨rfl, rfl⟩

theorem split_any (R F T a b : Int) (W : World) (hR2 : R ≤ 9223372036854775807) :
    Calls Try.prog 3 #[.int .i64 R, .int .i64 F, .int .i64 T, .int .i64 a, .int .i64 b] W fun e w' => e = .returned (.bool true) ∧ Below W.heap.size W w' := by
  by_cases hin : -4611686018427387904 ≤ F ∧ F ≤ 4611686018427387904 ∧ -4611686018427387904 ≤ T ∧ T ≤ 4611686018427387904 ∧ 0 ≤ a ∧ 0 ≤ b ∧ a ≤ 549755813888 ∧ b ≤ 549755813888
  · obtain ⟨h1, h2, h3, h4, h5, h6, h7, h8⟩ := hin
    obtain ⟨an, rfl⟩ := Int.eq_ofNat_of_zero_le h5
    obtain ⟨bn, rfl⟩ := Int.eq_ofNat_of_zero_le h6
    by_cases hR : R ≤ 0
    · exact split_never R F T an bn W hR h1 h2 h3 h4 (by omega) (by omega)
    · obtain ⟨r, rfl⟩ := Int.eq_ofNat_of_zero_le (show 0 ≤ R by omega)
      by_cases c : T < F
      · exact split_pos_a r F T an bn W (by omega) (by omega) c h1 h2 h3 h4 (by omega) (by omega)
      · exact split_pos_b r F T an bn W (by omega) (by omega) (by omega) h1 h2 h3 h4 (by omega) (by omega)
  · refine (split_outside R F T a b W (by omega)).mono ?_
    rintro e w' ⟨he, rfl⟩
    exact ⟨he, Below.refl _ _⟩
end Go.Proofs.Qxb6612812a
