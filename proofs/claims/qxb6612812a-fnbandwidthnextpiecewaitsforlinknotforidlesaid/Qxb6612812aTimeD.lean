import Derived.Test.Qxb6612812aTimeC
import Derived.Deep.RegionWith
namespace Go.Proofs.Qxb6612812a
open Go.RowKit

theorem tv_zero : tv 0 = .agg #[.int .u64 0, .int .i64 0, .pointer none] := rfl

theorem bcell {W w1 : World} (hb : Below W.heap.size W w1) : (∀ b o, b < W.heap.size → w1.cell? ⟨b, o, none⟩ = W.cell? ⟨b, o, none⟩) ∧ (∀ b o, b < W.heap.size → w1.frozen? ⟨b, o, none⟩ = W.frozen? ⟨b, o, none⟩) :=
  ⟨fun b o h => hb.cell (p := ⟨b, o, none⟩) h, fun b o h => hb.frozen (p := ⟨b, o, none⟩) h⟩

theorem below3 {w W w2 w3 : World} (h1 : Below w.heap.size w W) (h2 : Below W.heap.size W w2) (h3 : Below w2.heap.size w2 w3) : Below w.heap.size w w3 :=
  (h1.trans (h2.mono h1.size)).trans (h3.mono (Nat.le_trans h1.size h2.size))

theorem add_zero (n s : Int) (w : World) (h0 : 0 ≤ n) (h1 : n < 1000000000) (hT1 : -9223372036854775808 ≤ s * 1000000000 + n) (hT2 : s * 1000000000 + n ≤ 9223372036854775807) :
    Calls Try.prog 26 #[.agg #[.int .u64 0, .int .i64 0, .pointer none], .int .i64 (s * 1000000000 + n)] w fun e w' => e = .returned (.agg #[.int .u64 n, .int .i64 s, .pointer none]) ∧ Below w.heap.size w w' := by
  have h := add 0 (s * 1000000000 + n) w (by omega) (by omega) hT1 hT2
  have e : tv (0 + (s * 1000000000 + n)) = .agg #[.int .u64 n, .int .i64 s, .pointer none] := by
    unfold tv tmv
    rw [show (0 + (s * 1000000000 + n)) % 1000000000 = n by omega, show (0 + (s * 1000000000 + n)) / 1000000000 = s by omega]
  rw [e] at h
  exact h

set_option maxHeartbeats 1000000 in
theorem sub_in (n s : Int) (w : World) (h0 : 0 ≤ n) (h1 : n < 1000000000) (hs1 : -4611686019 ≤ s) (hs2 : s ≤ 9223372036) (hT : s * 1000000000 + n ≤ 9223372036854775807) :
    Calls Try.prog 27 #[.agg #[.int .u64 n, .int .i64 s, .pointer none], .agg #[.int .u64 0, .int .i64 0, .pointer none]] w fun e w' => e = .returned (.int .i64 (s * 1000000000 + n)) ∧ Below w.heap.size w w' := by
  have hb : (bits .and .u64 (bits .and .u64 n 0) 9223372036854775808 != 0) = false := by rw [and_hi2 h0 h1 (by omega) (by omega)]; rfl
  obtain ⟨c0, c1, d0, d1⟩ := two_cells w (.int .u64 n) (.int .i64 s) (.pointer none) (.int .u64 0) (.int .i64 0) (.pointer none)
  go_enter Try.func27, Try.ntmps27
  go_wp2_with fail
  refine (sec w.heap.size 0 n s _ c0 c1 h0 h1).mono ?_
  rintro e w1 ⟨rfl, rfl⟩
  go_wp2_with fail
  refine (sec (w.heap.size + 1) 0 0 0 _ d0 d1 (by omega) (by omega)).mono ?_
  rintro e w1 ⟨rfl, rfl⟩
  go_wp2_with fail
  refine (nsec w.heap.size 0 n _ c0 h0 h1).mono ?_
  rintro e w1 ⟨rfl, rfl⟩
  go_wp2_with fail
  refine (nsec (w.heap.size + 1) 0 0 _ d0 (by omega) (by omega)).mono ?_
  rintro e w1 ⟨rfl, rfl⟩
  go_wp2_with fail
  clear c0 c1 d0 d1
  go_region_with (first
    | (go_at_call 26; refine (add_zero n s _ h0 h1 (by omega) hT).mono ?_; rintro e w2 ⟨rfl, hb2⟩; obtain ⟨hcx, hfx⟩ := bcell hb2)
    | (go_at_call 36; refine (equal_yes n s n s _ h0 h1 h0 h1 (by simp) (by simp)).mono ?_; rintro e w3 ⟨rfl, hb3⟩))
  all_goals
    go_wp2
    go_ret
    exact ⟨rfl, below3 (below2 _ _ _).drew hb2 hb3⟩

/-- Two boxed times read later. -/
theorem six {w w2 w3 : World} {c0 c1 c2 e0 e1 e2 : Value} (h2 : Below (((w.alloc (.cells #[c0, c1, c2] 49)).alloc (.cells #[e0, e1, e2] 49)).drew).heap.size ((w.alloc (.cells #[c0, c1, c2] 49)).alloc (.cells #[e0, e1, e2] 49)).drew w2) (h3 : Below w2.heap.size w2 w3) :
    w3.cell? ⟨w.heap.size, 0, none⟩ = some c0 ∧ w3.cell? ⟨w.heap.size, 1, none⟩ = some c1 ∧ w3.cell? ⟨w.heap.size, 2, none⟩ = some c2 ∧
    w3.cell? ⟨w.heap.size + 1, 0, none⟩ = some e0 ∧ w3.cell? ⟨w.heap.size + 1, 1, none⟩ = some e1 ∧ w3.cell? ⟨w.heap.size + 1, 2, none⟩ = some e2 := by
  have hs := h2.size
  simp at hs
  have h := h2.trans (h3.mono h2.size)
  refine ⟨?_, ?_, ?_, ?_, ?_, ?_⟩ <;> rw [h.cell (by first | (simp; omega) | simp)] <;> simp

theorem equal_ne (n s m u : Int) (w : World) (h0 : 0 ≤ n) (h1 : n < 1000000000) (g0 : 0 ≤ m) (g1 : m < 1000000000) (h : s * 1000000000 + n ≠ u * 1000000000 + m) :
    Calls Try.prog 36 #[.agg #[.int .u64 n, .int .i64 s, .pointer none], .agg #[.int .u64 m, .int .i64 u, .pointer none]] w fun e w' => e = .returned (.bool false) ∧ Below w.heap.size w w' := by
  by_cases c : s = u
  · exact equal_eq_no n s m u w h0 h1 g0 g1 (by simp; omega) (by simp; omega)
  · exact equal_no n s m u w h0 h1 g0 g1 (by simp; omega)
theorem wrap_rng (x : Int) : -9223372036854775808 ≤ wrap64 x ∧ wrap64 x ≤ 9223372036854775807 := by
  unfold wrap64
  omega

set_option maxHeartbeats 1000000 in
theorem sub_out (n s : Int) (w : World) (h0 : 0 ≤ n) (h1 : n < 1000000000) (hs1 : 9223372036 ≤ s) (hs2 : s ≤ 14000000000) (hT : 9223372036854775808 ≤ s * 1000000000 + n) :
    Calls Try.prog 27 #[.agg #[.int .u64 n, .int .i64 s, .pointer none], .agg #[.int .u64 0, .int .i64 0, .pointer none]] w fun e w' => e = .returned (.int .i64 9223372036854775807) ∧ Below w.heap.size w w' := by
  have hb : (bits .and .u64 (bits .and .u64 n 0) 9223372036854775808 != 0) = false := by rw [and_hi2 h0 h1 (by omega) (by omega)]; rfl
  obtain ⟨c0, c1, d0, d1⟩ := two_cells w (.int .u64 n) (.int .i64 s) (.pointer none) (.int .u64 0) (.int .i64 0) (.pointer none)
  have HT : Hid (9223372036854775808 ≤ s * 1000000000 + n) := hT
  clear hT
  go_enter Try.func27, Try.ntmps27
  go_wp2_with fail
  refine (sec w.heap.size 0 n s _ c0 c1 h0 h1).mono ?_
  rintro e w1 ⟨rfl, rfl⟩
  go_wp2_with fail
  refine (sec (w.heap.size + 1) 0 0 0 _ d0 d1 (by omega) (by omega)).mono ?_
  rintro e w1 ⟨rfl, rfl⟩
  go_wp2_with fail
  refine (nsec w.heap.size 0 n _ c0 h0 h1).mono ?_
  rintro e w1 ⟨rfl, rfl⟩
  go_wp2_with fail
  refine (nsec (w.heap.size + 1) 0 0 _ d0 (by omega) (by omega)).mono ?_
  rintro e w1 ⟨rfl, rfl⟩
  go_wp2_with fail
  clear c0 c1 d0 d1
  obtain ⟨m, u, hm0, hm1, hD, hr1, hr2⟩ : ∃ m u : Int, 0 ≤ m ∧ m < 1000000000 ∧ wrap64 (wrap64 (s * 1000000000) + n) = u * 1000000000 + m ∧ -9223372036854775808 ≤ u * 1000000000 + m ∧ u * 1000000000 + m ≤ 9223372036854775807 := by
    have hr := wrap_rng (wrap64 (s * 1000000000) + n)
    generalize wrap64 (wrap64 (s * 1000000000) + n) = D at hr ⊢
    exact ⟨D % 1000000000, D / 1000000000, by omega, by omega, by omega, by omega, by omega⟩
  rw [hD]
  clear hD
  have hne : u * 1000000000 + m ≠ s * 1000000000 + n := by have := HT.out; omega
  have HN : Hid (u * 1000000000 + m ≠ s * 1000000000 + n) := hne
  clear hne
  have hs0 : decide (s < 0) = false := decide_eq_false (by omega)
  have hs3 : (s == 0) = false := by simp; omega
  go_region_with (first
    | (go_at_call 26; refine (add_zero m u _ hm0 hm1 hr1 hr2).mono ?_; rintro e w2 ⟨rfl, hb2⟩; obtain ⟨hcx, hfx⟩ := bcell hb2)
    | (go_at_call 36; refine (equal_ne m u n s _ hm0 hm1 h0 h1 HN.out).mono ?_; rintro e w3 ⟨rfl, hb3⟩; obtain ⟨hcy, hfy⟩ := bcell hb3))
  all_goals
    obtain ⟨f0, f1, f2, k0, k1, k2⟩ := six hb2 hb3
    have hbb := below3 (below2 _ _ _).drew hb2 hb3
    clear hcx hfx hcy hfy hb2 hb3
    go_wp2_with fail
    refine (before_gt n s 0 0 _ h0 h1 (by omega) (by omega) hs0 hs3).mono ?_
    rintro e w4 ⟨rfl, hb4⟩
    go_wp2
    go_ret
    exact ⟨rfl, hbb.trans (hb4.mono hbb.size)⟩

end Go.Proofs.Qxb6612812a
