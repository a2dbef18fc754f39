import Derived.Test.Qxb6612812aTimeB
namespace Go.Proofs.Qxb6612812a
open Go.RowKit

/-- Two times boxed one behind the other, as After, Before, Equal and Sub lay them. -/
theorem two_cells (w : World) (c0 c1 c2 e0 e1 e2 : Value) :
    ((w.alloc (.cells #[c0, c1, c2] 49)).alloc (.cells #[e0, e1, e2] 49)).cell? ⟨w.heap.size, 0, none⟩ = some c0 ∧ ((w.alloc (.cells #[c0, c1, c2] 49)).alloc (.cells #[e0, e1, e2] 49)).cell? ⟨w.heap.size, 1, none⟩ = some c1 ∧
    ((w.alloc (.cells #[c0, c1, c2] 49)).alloc (.cells #[e0, e1, e2] 49)).cell? ⟨w.heap.size + 1, 0, none⟩ = some e0 ∧ ((w.alloc (.cells #[c0, c1, c2] 49)).alloc (.cells #[e0, e1, e2] 49)).cell? ⟨w.heap.size + 1, 1, none⟩ = some e1 := by
  refine ⟨by simp, by simp, by simp, by simp⟩

theorem below2 (w : World) (o1 o2 : Obj) : Below w.heap.size w ((w.alloc o1).alloc o2) := ((Below.refl _ _).alloc (Nat.le_refl _) _).alloc (by simp) _

set_option maxHeartbeats 1000000 in
theorem after_gt (n s m u : Int) (w : World) (h0 : 0 ≤ n) (h1 : n < 1000000000) (g0 : 0 ≤ m) (g1 : m < 1000000000) (h : u < s) :
    Calls Try.prog 28 #[.agg #[.int .u64 n, .int .i64 s, .pointer none], .agg #[.int .u64 m, .int .i64 u, .pointer none]] w fun e w' => e = .returned (.bool true) ∧ Below w.heap.size w w' := by
  have hb : (bits .and .u64 (bits .and .u64 n m) 9223372036854775808 != 0) = false := by rw [and_hi2 h0 h1 g0 g1]; rfl
  obtain ⟨c0, c1, d0, d1⟩ := two_cells w (.int .u64 n) (.int .i64 s) (.pointer none) (.int .u64 m) (.int .i64 u) (.pointer none)
  go_enter Try.func28, Try.ntmps28
  go_wp2_with fail
  refine (sec w.heap.size 0 n s _ c0 c1 h0 h1).mono ?_
  rintro e w1 ⟨rfl, rfl⟩
  go_wp2_with fail
  refine (sec (w.heap.size + 1) 0 m u _ d0 d1 g0 g1).mono ?_
  rintro e w1 ⟨rfl, rfl⟩
  go_wp2
  go_ret
  exact ⟨rfl, below2 _ _ _⟩

set_option maxHeartbeats 1000000 in
theorem after_lt (n s m u : Int) (w : World) (h0 : 0 ≤ n) (h1 : n < 1000000000) (g0 : 0 ≤ m) (g1 : m < 1000000000) (h : decide (u < s) = false) (he : (s == u) = false) :
    Calls Try.prog 28 #[.agg #[.int .u64 n, .int .i64 s, .pointer none], .agg #[.int .u64 m, .int .i64 u, .pointer none]] w fun e w' => e = .returned (.bool false) ∧ Below w.heap.size w w' := by
  have hb : (bits .and .u64 (bits .and .u64 n m) 9223372036854775808 != 0) = false := by rw [and_hi2 h0 h1 g0 g1]; rfl
  obtain ⟨c0, c1, d0, d1⟩ := two_cells w (.int .u64 n) (.int .i64 s) (.pointer none) (.int .u64 m) (.int .i64 u) (.pointer none)
  go_enter Try.func28, Try.ntmps28
  go_wp2_with fail
  refine (sec w.heap.size 0 n s _ c0 c1 h0 h1).mono ?_
  rintro e w1 ⟨rfl, rfl⟩
  go_wp2_with fail
  refine (sec (w.heap.size + 1) 0 m u _ d0 d1 g0 g1).mono ?_
  rintro e w1 ⟨rfl, rfl⟩
  go_wp2
  go_ret
  exact ⟨rfl, below2 _ _ _⟩

set_option maxHeartbeats 1000000 in
theorem after_eq_gt (n s m u : Int) (w : World) (h0 : 0 ≤ n) (h1 : n < 1000000000) (g0 : 0 ≤ m) (g1 : m < 1000000000) (he : (s == u) = true) (h : decide (u < s) = false) (hm : decide (m < n) = true) :
    Calls Try.prog 28 #[.agg #[.int .u64 n, .int .i64 s, .pointer none], .agg #[.int .u64 m, .int .i64 u, .pointer none]] w fun e w' => e = .returned (.bool true) ∧ Below w.heap.size w w' := by
  have hb : (bits .and .u64 (bits .and .u64 n m) 9223372036854775808 != 0) = false := by rw [and_hi2 h0 h1 g0 g1]; rfl
  obtain ⟨c0, c1, d0, d1⟩ := two_cells w (.int .u64 n) (.int .i64 s) (.pointer none) (.int .u64 m) (.int .i64 u) (.pointer none)
  go_enter Try.func28, Try.ntmps28
  go_wp2_with fail
  refine (sec w.heap.size 0 n s _ c0 c1 h0 h1).mono ?_
  rintro e w1 ⟨rfl, rfl⟩
  go_wp2_with fail
  refine (sec (w.heap.size + 1) 0 m u _ d0 d1 g0 g1).mono ?_
  rintro e w1 ⟨rfl, rfl⟩
  go_wp2_with fail
  refine (nsec w.heap.size 0 n _ c0 h0 h1).mono ?_
  rintro e w1 ⟨rfl, rfl⟩
  go_wp2_with fail
  refine (nsec (w.heap.size + 1) 0 m _ d0 g0 g1).mono ?_
  rintro e w1 ⟨rfl, rfl⟩
  go_wp2
  go_ret
  exact ⟨rfl, below2 _ _ _⟩

set_option maxHeartbeats 1000000 in
theorem after_eq_le (n s m u : Int) (w : World) (h0 : 0 ≤ n) (h1 : n < 1000000000) (g0 : 0 ≤ m) (g1 : m < 1000000000) (he : (s == u) = true) (h : decide (u < s) = false) (hm : decide (m < n) = false) :
    Calls Try.prog 28 #[.agg #[.int .u64 n, .int .i64 s, .pointer none], .agg #[.int .u64 m, .int .i64 u, .pointer none]] w fun e w' => e = .returned (.bool false) ∧ Below w.heap.size w w' := by
  have hb : (bits .and .u64 (bits .and .u64 n m) 9223372036854775808 != 0) = false := by rw [and_hi2 h0 h1 g0 g1]; rfl
  obtain ⟨c0, c1, d0, d1⟩ := two_cells w (.int .u64 n) (.int .i64 s) (.pointer none) (.int .u64 m) (.int .i64 u) (.pointer none)
  go_enter Try.func28, Try.ntmps28
  go_wp2_with fail
  refine (sec w.heap.size 0 n s _ c0 c1 h0 h1).mono ?_
  rintro e w1 ⟨rfl, rfl⟩
  go_wp2_with fail
  refine (sec (w.heap.size + 1) 0 m u _ d0 d1 g0 g1).mono ?_
  rintro e w1 ⟨rfl, rfl⟩
  go_wp2_with fail
  refine (nsec w.heap.size 0 n _ c0 h0 h1).mono ?_
  rintro e w1 ⟨rfl, rfl⟩
  go_wp2_with fail
  refine (nsec (w.heap.size + 1) 0 m _ d0 g0 g1).mono ?_
  rintro e w1 ⟨rfl, rfl⟩
  go_wp2
  go_ret
  exact ⟨rfl, below2 _ _ _⟩

set_option maxHeartbeats 1000000 in
theorem before_gt (n s m u : Int) (w : World) (h0 : 0 ≤ n) (h1 : n < 1000000000) (g0 : 0 ≤ m) (g1 : m < 1000000000) (h : decide (s < u) = false) (he : (s == u) = false) :
    Calls Try.prog 37 #[.agg #[.int .u64 n, .int .i64 s, .pointer none], .agg #[.int .u64 m, .int .i64 u, .pointer none]] w fun e w' => e = .returned (.bool false) ∧ Below w.heap.size w w' := by
  have hb : (bits .and .u64 (bits .and .u64 n m) 9223372036854775808 != 0) = false := by rw [and_hi2 h0 h1 g0 g1]; rfl
  obtain ⟨c0, c1, d0, d1⟩ := two_cells w (.int .u64 n) (.int .i64 s) (.pointer none) (.int .u64 m) (.int .i64 u) (.pointer none)
  go_enter Try.func37, Try.ntmps37
  go_wp2_with fail
  refine (sec w.heap.size 0 n s _ c0 c1 h0 h1).mono ?_
  rintro e w1 ⟨rfl, rfl⟩
  go_wp2_with fail
  refine (sec (w.heap.size + 1) 0 m u _ d0 d1 g0 g1).mono ?_
  rintro e w1 ⟨rfl, rfl⟩
  go_wp2
  go_ret
  exact ⟨rfl, below2 _ _ _⟩

set_option maxHeartbeats 1000000 in
theorem before_eq_ge (n s m u : Int) (w : World) (h0 : 0 ≤ n) (h1 : n < 1000000000) (g0 : 0 ≤ m) (g1 : m < 1000000000) (he : (s == u) = true) (h : decide (s < u) = false) (hm : decide (n < m) = false) :
    Calls Try.prog 37 #[.agg #[.int .u64 n, .int .i64 s, .pointer none], .agg #[.int .u64 m, .int .i64 u, .pointer none]] w fun e w' => e = .returned (.bool false) ∧ Below w.heap.size w w' := by
  have hb : (bits .and .u64 (bits .and .u64 n m) 9223372036854775808 != 0) = false := by rw [and_hi2 h0 h1 g0 g1]; rfl
  obtain ⟨c0, c1, d0, d1⟩ := two_cells w (.int .u64 n) (.int .i64 s) (.pointer none) (.int .u64 m) (.int .i64 u) (.pointer none)
  go_enter Try.func37, Try.ntmps37
  go_wp2_with fail
  refine (sec w.heap.size 0 n s _ c0 c1 h0 h1).mono ?_
  rintro e w1 ⟨rfl, rfl⟩
  go_wp2_with fail
  refine (sec (w.heap.size + 1) 0 m u _ d0 d1 g0 g1).mono ?_
  rintro e w1 ⟨rfl, rfl⟩
  go_wp2_with fail
  refine (nsec w.heap.size 0 n _ c0 h0 h1).mono ?_
  rintro e w1 ⟨rfl, rfl⟩
  go_wp2_with fail
  refine (nsec (w.heap.size + 1) 0 m _ d0 g0 g1).mono ?_
  rintro e w1 ⟨rfl, rfl⟩
  go_wp2
  go_ret
  exact ⟨rfl, below2 _ _ _⟩

set_option maxHeartbeats 1000000 in
theorem equal_no (n s m u : Int) (w : World) (h0 : 0 ≤ n) (h1 : n < 1000000000) (g0 : 0 ≤ m) (g1 : m < 1000000000) (he : (s == u) = false) :
    Calls Try.prog 36 #[.agg #[.int .u64 n, .int .i64 s, .pointer none], .agg #[.int .u64 m, .int .i64 u, .pointer none]] w fun e w' => e = .returned (.bool false) ∧ Below w.heap.size w w' := by
  have hb : (bits .and .u64 (bits .and .u64 n m) 9223372036854775808 != 0) = false := by rw [and_hi2 h0 h1 g0 g1]; rfl
  obtain ⟨c0, c1, d0, d1⟩ := two_cells w (.int .u64 n) (.int .i64 s) (.pointer none) (.int .u64 m) (.int .i64 u) (.pointer none)
  go_enter Try.func36, Try.ntmps36
  go_wp2_with fail
  refine (sec w.heap.size 0 n s _ c0 c1 h0 h1).mono ?_
  rintro e w1 ⟨rfl, rfl⟩
  go_wp2_with fail
  refine (sec (w.heap.size + 1) 0 m u _ d0 d1 g0 g1).mono ?_
  rintro e w1 ⟨rfl, rfl⟩
  go_wp2
  go_ret
  exact ⟨rfl, below2 _ _ _⟩

set_option maxHeartbeats 1000000 in
theorem equal_eq_no (n s m u : Int) (w : World) (h0 : 0 ≤ n) (h1 : n < 1000000000) (g0 : 0 ≤ m) (g1 : m < 1000000000) (he : (s == u) = true) (hm : (n == m) = false) :
    Calls Try.prog 36 #[.agg #[.int .u64 n, .int .i64 s, .pointer none], .agg #[.int .u64 m, .int .i64 u, .pointer none]] w fun e w' => e = .returned (.bool false) ∧ Below w.heap.size w w' := by
  have hb : (bits .and .u64 (bits .and .u64 n m) 9223372036854775808 != 0) = false := by rw [and_hi2 h0 h1 g0 g1]; rfl
  obtain ⟨c0, c1, d0, d1⟩ := two_cells w (.int .u64 n) (.int .i64 s) (.pointer none) (.int .u64 m) (.int .i64 u) (.pointer none)
  go_enter Try.func36, Try.ntmps36
  go_wp2_with fail
  refine (sec w.heap.size 0 n s _ c0 c1 h0 h1).mono ?_
  rintro e w1 ⟨rfl, rfl⟩
  go_wp2_with fail
  refine (sec (w.heap.size + 1) 0 m u _ d0 d1 g0 g1).mono ?_
  rintro e w1 ⟨rfl, rfl⟩
  go_wp2_with fail
  refine (nsec w.heap.size 0 n _ c0 h0 h1).mono ?_
  rintro e w1 ⟨rfl, rfl⟩
  go_wp2_with fail
  refine (nsec (w.heap.size + 1) 0 m _ d0 g0 g1).mono ?_
  rintro e w1 ⟨rfl, rfl⟩
  go_wp2
  go_ret
  exact ⟨rfl, below2 _ _ _⟩

set_option maxHeartbeats 1000000 in
theorem equal_yes (n s m u : Int) (w : World) (h0 : 0 ≤ n) (h1 : n < 1000000000) (g0 : 0 ≤ m) (g1 : m < 1000000000) (he : (s == u) = true) (hm : (n == m) = true) :
    Calls Try.prog 36 #[.agg #[.int .u64 n, .int .i64 s, .pointer none], .agg #[.int .u64 m, .int .i64 u, .pointer none]] w fun e w' => e = .returned (.bool true) ∧ Below w.heap.size w w' := by
  have hb : (bits .and .u64 (bits .and .u64 n m) 9223372036854775808 != 0) = false := by rw [and_hi2 h0 h1 g0 g1]; rfl
  obtain ⟨c0, c1, d0, d1⟩ := two_cells w (.int .u64 n) (.int .i64 s) (.pointer none) (.int .u64 m) (.int .i64 u) (.pointer none)
  go_enter Try.func36, Try.ntmps36
  go_wp2_with fail
  refine (sec w.heap.size 0 n s _ c0 c1 h0 h1).mono ?_
  rintro e w1 ⟨rfl, rfl⟩
  go_wp2_with fail
  refine (sec (w.heap.size + 1) 0 m u _ d0 d1 g0 g1).mono ?_
  rintro e w1 ⟨rfl, rfl⟩
  go_wp2_with fail
  refine (nsec w.heap.size 0 n _ c0 h0 h1).mono ?_
  rintro e w1 ⟨rfl, rfl⟩
  go_wp2_with fail
  refine (nsec (w.heap.size + 1) 0 m _ d0 g0 g1).mono ?_
  rintro e w1 ⟨rfl, rfl⟩
  go_wp2
  go_ret
  exact ⟨rfl, below2 _ _ _⟩

theorem emod_rng (T : Int) : 0 ≤ T % 1000000000 ∧ T % 1000000000 < 1000000000 := by omega

theorem after (A B : Int) (w : World) : Calls Try.prog 28 #[tv A, tv B] w fun e w' => e = .returned (.bool (decide (B < A))) ∧ Below w.heap.size w w' := by
  obtain ⟨a1, a2⟩ := emod_rng A
  obtain ⟨b1, b2⟩ := emod_rng B
  unfold tv tmv
  by_cases c1 : B / 1000000000 < A / 1000000000
  · rw [decide_eq_true (show B < A by omega)]
    exact after_gt _ _ _ _ w a1 a2 b1 b2 c1
  · by_cases c2 : A / 1000000000 < B / 1000000000
    · rw [decide_eq_false (show ¬ B < A by omega)]
      exact after_lt _ _ _ _ w a1 a2 b1 b2 (decide_eq_false c1) (by simp; omega)
    · by_cases c3 : B % 1000000000 < A % 1000000000
      · rw [decide_eq_true (show B < A by omega)]
        exact after_eq_gt _ _ _ _ w a1 a2 b1 b2 (by simp; omega) (decide_eq_false c1) (decide_eq_true c3)
      · rw [decide_eq_false (show ¬ B < A by omega)]
        exact after_eq_le _ _ _ _ w a1 a2 b1 b2 (by simp; omega) (decide_eq_false c1) (decide_eq_false c3)

theorem before_no (A B : Int) (w : World) (h : B ≤ A) : Calls Try.prog 37 #[tv A, tv B] w fun e w' => e = .returned (.bool false) ∧ Below w.heap.size w w' := by
  obtain ⟨a1, a2⟩ := emod_rng A
  obtain ⟨b1, b2⟩ := emod_rng B
  unfold tv tmv
  by_cases c1 : B / 1000000000 < A / 1000000000
  · exact before_gt _ _ _ _ w a1 a2 b1 b2 (decide_eq_false (by omega)) (by simp; omega)
  · exact before_eq_ge _ _ _ _ w a1 a2 b1 b2 (by simp; omega) (decide_eq_false (by omega)) (decide_eq_false (by omega))

theorem equal (A B : Int) (w : World) : Calls Try.prog 36 #[tv A, tv B] w fun e w' => e = .returned (.bool (decide (A = B))) ∧ Below w.heap.size w w' := by
  obtain ⟨a1, a2⟩ := emod_rng A
  obtain ⟨b1, b2⟩ := emod_rng B
  unfold tv tmv
  by_cases c1 : A / 1000000000 = B / 1000000000
  · by_cases c2 : A % 1000000000 = B % 1000000000
    · rw [decide_eq_true (show A = B by omega)]
      exact equal_yes _ _ _ _ w a1 a2 b1 b2 (by simp; omega) (by simp; omega)
    · rw [decide_eq_false (show ¬ A = B by omega)]
      exact equal_eq_no _ _ _ _ w a1 a2 b1 b2 (by simp; omega) (by simp; omega)
  · rw [decide_eq_false (show ¬ A = B by omega)]
    exact equal_no _ _ _ _ w a1 a2 b1 b2 (by simp; omega)
end Go.Proofs.Qxb6612812a
