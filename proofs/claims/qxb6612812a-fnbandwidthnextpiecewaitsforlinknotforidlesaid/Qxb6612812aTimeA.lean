import Derived.Test.Qxb6612812aRows
import Derived.WalkKit
import Derived.WalkSpells
import Derived.WalkLawsBesides
import Derived.Deep.QuietTactic
import Derived.BigQuiet
namespace Go.Proofs.Qxb6612812a
open Go.RowKit

theorem and_hi_nat (n : Nat) (h : n < 9223372036854775808) : n &&& 9223372036854775808 = 0 := by
  have := nat_bit 63 n
  rw [show (2 : Nat) ^ 63 = 9223372036854775808 from rfl] at this
  rw [this, Nat.div_eq_of_lt h]
theorem and_lo {n : Int} (h0 : 0 ≤ n) (h1 : n < 1000000000) : bits .and .u64 n 1073741823 = n := by
  rw [u64_and n 1073741823 h0 (by omega) (by omega) (by omega), show (1073741823 : Int).toNat = 2 ^ 30 - 1 from rfl, Nat.and_two_pow_sub_one_eq_mod, Nat.mod_eq_of_lt (by omega)]
  omega
theorem and_hi {n : Int} (h0 : 0 ≤ n) (h1 : n < 9223372036854775808) : bits .and .u64 n 9223372036854775808 = 0 := by
  rw [u64_and n 9223372036854775808 h0 (by omega) (by omega) (by omega), show (9223372036854775808 : Int).toNat = 9223372036854775808 from rfl, and_hi_nat _ (by omega)]
  rfl
theorem and_hi2 {n m : Int} (h0 : 0 ≤ n) (h1 : n < 1000000000) (g0 : 0 ≤ m) (g1 : m < 1000000000) : bits .and .u64 (bits .and .u64 n m) 9223372036854775808 = 0 := by
  rw [u64_and n m h0 (by omega) g0 (by omega)]
  have := Nat.and_le_left (n := n.toNat) (m := m.toNat)
  exact and_hi (by omega) (by omega)
theorem andNot_lo {n : Int} (h0 : 0 ≤ n) (h1 : n < 1000000000) : bits .andNot .u64 n 1073741823 = 0 := by
  rw [u64_andNot n 1073741823 h0 (by omega) (by omega) (by omega)]
  have e : n.toNat &&& (18446744073709551615 - (1073741823 : Int).toNat) = 0 := by
    have e1 : n.toNat = n.toNat &&& (2 ^ 30 - 1) := by rw [Nat.and_two_pow_sub_one_eq_mod, Nat.mod_eq_of_lt (by omega)]
    rw [e1, Nat.and_assoc, show (2 ^ 30 - 1) &&& (18446744073709551615 - (1073741823 : Int).toNat) = 0 from by decide +kernel, Nat.and_zero]
  rw [e]
  rfl
theorem or_lo {n : Int} (h0 : 0 ≤ n) (h1 : n < 1000000000) : bits .or .u64 0 n = n := by
  rw [u64_or 0 n (by omega) (by omega) h0 (by omega), show (0 : Int).toNat = 0 from rfl, Nat.zero_or]
  omega

set_option maxHeartbeats 400000 in
theorem nsec (b off : Nat) (n : Int) (w : World) (h : w.cell? ⟨b, off, none⟩ = some (.int .u64 n)) (h0 : 0 ≤ n) (h1 : n < 1000000000) :
    Calls Try.prog 31 #[.pointer (some ⟨b, off, none⟩)] w fun e w' => e = .returned (.int .i32 n) ∧ w = w' := by
  have hb := and_lo h0 h1
  go_enter Try.func31, Try.ntmps31
  go_wp2
  go_ret
  exact ⟨rfl, rfl⟩

set_option maxHeartbeats 400000 in
theorem sec (b off : Nat) (n s : Int) (w : World) (h : w.cell? ⟨b, off, none⟩ = some (.int .u64 n)) (hs : w.cell? ⟨b, off + 1, none⟩ = some (.int .i64 s)) (h0 : 0 ≤ n) (h1 : n < 1000000000) :
    Calls Try.prog 35 #[.pointer (some ⟨b, off, none⟩)] w fun e w' => e = .returned (.int .i64 s) ∧ w = w' := by
  have hb : (bits .and .u64 n 9223372036854775808 != 0) = false := by rw [and_hi h0 (by omega)]; rfl
  go_enter Try.func35, Try.ntmps35
  go_wp2
  go_ret
  exact ⟨rfl, rfl⟩

/-- (*Time).addSec on a time that bears no monotonic mark, no overflow. -/
theorem addSec (b off : Nat) (n s d : Int) (w : World) (h : w.cell? ⟨b, off, none⟩ = some (.int .u64 n)) (hs : w.cell? ⟨b, off + 1, none⟩ = some (.int .i64 s)) (hf : w.frozen? ⟨b, off + 1, none⟩ = false) (h0 : 0 ≤ n) (h1 : n < 1000000000)
    (hs1 : -100000000000 ≤ s) (hs2 : s ≤ 100000000000) (hd1 : -100000000000 ≤ d) (hd2 : d ≤ 100000000000) :
    Calls Try.prog 32 #[.pointer (some ⟨b, off, none⟩), .int .i64 d] w fun e w' => e = .returned (.tuple #[]) ∧ w' = w.setCell ⟨b, off + 1, none⟩ (.int .i64 (s + d)) := by
  have hb : (bits .and .u64 n 9223372036854775808 != 0) = false := by rw [and_hi h0 (by omega)]; rfl
  by_cases hd : 0 < d
  · have hg : decide (s < s + d) = true := decide_eq_true (by omega)
    have hg2 : decide (0 < d) = true := decide_eq_true (by omega)
    go_enter Try.func32, Try.ntmps32
    go_wp2
    go_end0
    exact ⟨rfl, rfl⟩
  · have hg : decide (s < s + d) = false := decide_eq_false (by omega)
    have hg2 : decide (0 < d) = false := decide_eq_false (by omega)
    go_enter Try.func32, Try.ntmps32
    go_wp2
    go_end0
    exact ⟨rfl, rfl⟩
end Go.Proofs.Qxb6612812a
