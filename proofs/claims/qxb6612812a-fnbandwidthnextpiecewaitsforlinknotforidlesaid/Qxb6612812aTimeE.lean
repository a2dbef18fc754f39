import Derived.Test.Qxb6612812aTimeD
namespace Go.Proofs.Qxb6612812a
open Go.RowKit

set_option maxHeartbeats 1000000 in
theorem at_ (n s : Int) (w : World) (h0 : 0 ≤ n) (h1 : n < 1000000000) (hT1 : -9223372036854775808 ≤ s * 1000000000 + n) (hT2 : s * 1000000000 + n ≤ 9223372036854775807) :
    Calls Try.prog 19 #[.int .i64 (s * 1000000000 + n)] w fun e w' => e = .returned (.agg #[.int .u64 n, .int .i64 s, .pointer none]) ∧ Below w.heap.size w w' := by
  go_enter Try.func19, Try.ntmps19
  go_wp2_with fail
  refine (add_zero n s _ h0 h1 hT1 hT2).mono ?_
  rintro e w1 ⟨rfl, hb⟩
  have hz : w.heap.size < w1.heap.size := by have := hb.size; simp at this; omega
  obtain ⟨hcx, hfx⟩ := bcell hb
  go_wp2
  refine bodyPost_ret (v := .agg #[.int .u64 n, .int .i64 s, .pointer none]) (by simp [results, Try.results19, go_sem, hcx]) rfl ⟨rfl, ?_⟩
  have hb0 := (Below.refl w.heap.size w).alloc (Nat.le_refl _) (.cells #[.int .u64 0, .int .i64 0, .pointer none] 49)
  exact (((hb0.trans (hb.mono hb0.size)).setCell (Nat.le_refl _) _).setCell (Nat.le_refl _) _).setCell (Nat.le_refl _) _

set_option maxHeartbeats 1000000 in
theorem ns_in (n s : Int) (w : World) (h0 : 0 ≤ n) (h1 : n < 1000000000) (hs1 : -4611686019 ≤ s) (hs2 : s ≤ 9223372036) (hT : s * 1000000000 + n ≤ 9223372036854775807) :
    Calls Try.prog 20 #[.agg #[.int .u64 n, .int .i64 s, .pointer none]] w fun e w' => e = .returned (.int .i64 (s * 1000000000 + n)) ∧ Below w.heap.size w w' := by
  go_enter Try.func20, Try.ntmps20
  go_wp2_with fail
  refine (sub_in n s _ h0 h1 hs1 hs2 hT).mono ?_
  rintro e w1 ⟨rfl, hb⟩
  go_wp2
  go_ret
  have hb0 := (Below.refl w.heap.size w).alloc (Nat.le_refl _) (.cells #[.int .u64 n, .int .i64 s, .pointer none] 49)
  exact ⟨rfl, hb0.trans (hb.mono hb0.size)⟩

set_option maxHeartbeats 1000000 in
theorem ns_out (n s : Int) (w : World) (h0 : 0 ≤ n) (h1 : n < 1000000000) (hs1 : 9223372036 ≤ s) (hs2 : s ≤ 14000000000) (hT : 9223372036854775808 ≤ s * 1000000000 + n) :
    Calls Try.prog 20 #[.agg #[.int .u64 n, .int .i64 s, .pointer none]] w fun e w' => e = .returned (.int .i64 9223372036854775807) ∧ Below w.heap.size w w' := by
  go_enter Try.func20, Try.ntmps20
  go_wp2_with fail
  refine (sub_out n s _ h0 h1 hs1 hs2 hT).mono ?_
  rintro e w1 ⟨rfl, hb⟩
  go_wp2
  go_ret
  have hb0 := (Below.refl w.heap.size w).alloc (Nat.le_refl _) (.cells #[.int .u64 n, .int .i64 s, .pointer none] 49)
  exact ⟨rfl, hb0.trans (hb.mono hb0.size)⟩
end Go.Proofs.Qxb6612812a
