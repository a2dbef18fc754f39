import Derived.Test.Qxb6612812aTimeA
namespace Go.Proofs.Qxb6612812a
open Go.RowKit

/-- A time without a monotonic mark and without a location: the nanoseconds within the second, the seconds. -/
def tmv (n s : Int) : Value := .agg #[.int .u64 n, .int .i64 s, .pointer none]
/-- The time T nanoseconds behind the zero time. -/
def tv (T : Int) : Value := tmv (T % 1000000000) (T / 1000000000)

theorem new_cells (w : World) (o : Obj) (c0 c1 c2 : Value) :
    ((w.alloc (.cells #[c0, c1, c2] 49)).alloc o).cell? ⟨w.heap.size, 0, none⟩ = some c0 ∧ ((w.alloc (.cells #[c0, c1, c2] 49)).alloc o).cell? ⟨w.heap.size, 1, none⟩ = some c1 ∧
    ((w.alloc (.cells #[c0, c1, c2] 49)).alloc o).frozen? ⟨w.heap.size, 1, none⟩ = false := by
  refine ⟨by simp, by simp, ?_⟩
  rw [World.frozen?_alloc_past _ _ _ (by simp)]
  exact World.frozen?_alloc_at _ _ _ _ rfl

set_option maxHeartbeats 1000000 in
theorem add0 (n s d q r : Int) (w : World) (h0 : 0 ≤ n) (h1 : n < 1000000000) (hq : d.tdiv 1000000000 = q) (hr : d.tmod 1000000000 = r)
    (q1 : -9223372037 ≤ q) (q2 : q ≤ 9223372037) (r1 : -1000000000 < r) (r2 : r < 1000000000) (hc : 0 ≤ n + r) (hc' : n + r < 1000000000)
    (hs1 : -50000000000 ≤ s) (hs2 : s ≤ 50000000000) :
    Calls Try.prog 26 #[.agg #[.int .u64 n, .int .i64 s, .pointer none], .int .i64 d] w fun e w' => e = .returned (.agg #[.int .u64 (n + r), .int .i64 (s + (q)), .pointer none]) ∧ Below w.heap.size w w' := by
  have hc1 : 0 ≤ n + r := by omega
  have hc2 : n + r < 1000000000 := by omega
  have hb1 := andNot_lo h0 h1
  have hb2 := or_lo hc1 hc2
  have hb : (bits .and .u64 (n + r) 9223372036854775808 != 0) = false := by rw [and_hi hc1 (by omega)]; rfl
  go_enter Try.func26, Try.ntmps26
  go_wp2_with fail
  refine (nsec _ _ n _ (by simp) h0 h1).mono ?_
  rintro e w1 ⟨rfl, rfl⟩
  go_wp2_with fail
  have hn := new_cells w (.cells #[.int .u64 0, .int .i64 0, .pointer none] 49) (.int .u64 (n + r)) (.int .i64 s) (.pointer none)
  refine (addSec w.heap.size 0 (n + r) s (q) _ hn.1 hn.2.1 hn.2.2 hc1 hc2 (by omega) (by omega) (by omega) (by omega)).mono ?_
  rintro e w1 ⟨rfl, rfl⟩
  clear hn
  go_wp2
  refine bodyPost_ret (v := .agg #[.int .u64 (n + r), .int .i64 (s + (q)), .pointer none]) (by simp [results, Try.results26, go_sem]) rfl ⟨rfl, ?_⟩
  exact ((Below.refl _ _).alloc (Nat.le_refl _) _).alloc (by simp) _

set_option maxHeartbeats 1000000 in
theorem add1 (n s d q r : Int) (w : World) (h0 : 0 ≤ n) (h1 : n < 1000000000) (hq : d.tdiv 1000000000 = q) (hr : d.tmod 1000000000 = r)
    (q1 : -9223372037 ≤ q) (q2 : q ≤ 9223372037) (r1 : -1000000000 < r) (r2 : r < 1000000000) (hc : 1000000000 ≤ n + r)
    (hs1 : -50000000000 ≤ s) (hs2 : s ≤ 50000000000) :
    Calls Try.prog 26 #[.agg #[.int .u64 n, .int .i64 s, .pointer none], .int .i64 d] w fun e w' => e = .returned (.agg #[.int .u64 (n + r - 1000000000), .int .i64 (s + (q + 1)), .pointer none]) ∧ Below w.heap.size w w' := by
  have hc1 : 0 ≤ n + r - 1000000000 := by omega
  have hc2 : n + r - 1000000000 < 1000000000 := by omega
  have hb1 := andNot_lo h0 h1
  have hb2 := or_lo hc1 hc2
  have hb : (bits .and .u64 (n + r - 1000000000) 9223372036854775808 != 0) = false := by rw [and_hi hc1 (by omega)]; rfl
  go_enter Try.func26, Try.ntmps26
  go_wp2_with fail
  refine (nsec _ _ n _ (by simp) h0 h1).mono ?_
  rintro e w1 ⟨rfl, rfl⟩
  go_wp2_with fail
  have hn := new_cells w (.cells #[.int .u64 0, .int .i64 0, .pointer none] 49) (.int .u64 (n + r - 1000000000)) (.int .i64 s) (.pointer none)
  refine (addSec w.heap.size 0 (n + r - 1000000000) s (q + 1) _ hn.1 hn.2.1 hn.2.2 hc1 hc2 (by omega) (by omega) (by omega) (by omega)).mono ?_
  rintro e w1 ⟨rfl, rfl⟩
  clear hn
  go_wp2
  refine bodyPost_ret (v := .agg #[.int .u64 (n + r - 1000000000), .int .i64 (s + (q + 1)), .pointer none]) (by simp [results, Try.results26, go_sem]) rfl ⟨rfl, ?_⟩
  exact ((Below.refl _ _).alloc (Nat.le_refl _) _).alloc (by simp) _

set_option maxHeartbeats 1000000 in
theorem add2 (n s d q r : Int) (w : World) (h0 : 0 ≤ n) (h1 : n < 1000000000) (hq : d.tdiv 1000000000 = q) (hr : d.tmod 1000000000 = r)
    (q1 : -9223372037 ≤ q) (q2 : q ≤ 9223372037) (r1 : -1000000000 < r) (r2 : r < 1000000000) (hc : n + r < 0)
    (hs1 : -50000000000 ≤ s) (hs2 : s ≤ 50000000000) :
    Calls Try.prog 26 #[.agg #[.int .u64 n, .int .i64 s, .pointer none], .int .i64 d] w fun e w' => e = .returned (.agg #[.int .u64 (n + r + 1000000000), .int .i64 (s + (q - 1)), .pointer none]) ∧ Below w.heap.size w w' := by
  have hc1 : 0 ≤ n + r + 1000000000 := by omega
  have hc2 : n + r + 1000000000 < 1000000000 := by omega
  have hb1 := andNot_lo h0 h1
  have hb2 := or_lo hc1 hc2
  have hb : (bits .and .u64 (n + r + 1000000000) 9223372036854775808 != 0) = false := by rw [and_hi hc1 (by omega)]; rfl
  go_enter Try.func26, Try.ntmps26
  go_wp2_with fail
  refine (nsec _ _ n _ (by simp) h0 h1).mono ?_
  rintro e w1 ⟨rfl, rfl⟩
  go_wp2_with fail
  have hn := new_cells w (.cells #[.int .u64 0, .int .i64 0, .pointer none] 49) (.int .u64 (n + r + 1000000000)) (.int .i64 s) (.pointer none)
  refine (addSec w.heap.size 0 (n + r + 1000000000) s (q - 1) _ hn.1 hn.2.1 hn.2.2 hc1 hc2 (by omega) (by omega) (by omega) (by omega)).mono ?_
  rintro e w1 ⟨rfl, rfl⟩
  clear hn
  go_wp2
  refine bodyPost_ret (v := .agg #[.int .u64 (n + r + 1000000000), .int .i64 (s + (q - 1)), .pointer none]) (by simp [results, Try.results26, go_sem]) rfl ⟨rfl, ?_⟩
  exact ((Below.refl _ _).alloc (Nat.le_refl _) _).alloc (by simp) _


theorem add (T d : Int) (w : World) (hT1 : -36893488147419103232 ≤ T) (hT2 : T ≤ 36893488147419103232) (hd1 : -9223372036854775808 ≤ d) (hd2 : d ≤ 9223372036854775807) :
    Calls Try.prog 26 #[tv T, .int .i64 d] w fun e w' => e = .returned (tv (T + d)) ∧ Below w.heap.size w w' := by
  have hq := Int.mul_tdiv_add_tmod d 1000000000
  have hr1 : -1000000000 < d.tmod 1000000000 := by have := Int.lt_tmod_of_pos d (b := 1000000000) (by omega); omega
  have hr2 : d.tmod 1000000000 < 1000000000 := Int.tmod_lt_of_pos d (by omega)
  unfold tv tmv
  generalize hQ : d.tdiv 1000000000 = q at hq
  generalize hR : d.tmod 1000000000 = r at hq hr1 hr2
  generalize hn : T % 1000000000 = n
  generalize hs : T / 1000000000 = s
  by_cases c0 : n + r < 0
  · have e1 : (T + d) % 1000000000 = n + r + 1000000000 := by omega
    have e2 : (T + d) / 1000000000 = s + (q - 1) := by omega
    rw [e1, e2]
    exact add2 n s d q r w (by omega) (by omega) hQ hR (by omega) (by omega) hr1 hr2 c0 (by omega) (by omega)
  · by_cases c1 : 1000000000 ≤ n + r
    · have e1 : (T + d) % 1000000000 = n + r - 1000000000 := by omega
      have e2 : (T + d) / 1000000000 = s + (q + 1) := by omega
      rw [e1, e2]
      exact add1 n s d q r w (by omega) (by omega) hQ hR (by omega) (by omega) hr1 hr2 c1 (by omega) (by omega)
    · have e1 : (T + d) % 1000000000 = n + r := by omega
      have e2 : (T + d) / 1000000000 = s + q := by omega
      rw [e1, e2]
      exact add0 n s d q r w (by omega) (by omega) hQ hR (by omega) (by omega) hr1 hr2 (by omega) (by omega) (by omega) (by omega)
end Go.Proofs.Qxb6612812a
