import Derived.Test.Qxb6612894aFmtRows
import Derived.WalkKit
import Derived.WalkSpells
import Derived.WalkLawsBesides
import Derived.Deep.QuietTactic
import Derived.BigQuiet
import Derived.Deep.RegionWith
namespace Go.Proofs.Qxb6612894aFmt
open Go.RowKit

/-- A layout at block lb whose worker field is the one at place wi (cells 4 wi and on of block fb): b bits, shifted by sh. -/
structure IsLay (w : World) (lb fb wi : Nat) (nm : ByteArray) (b sh : Int) : Prop where
  fields : w.cell? ⟨lb, 0, none⟩ = some (.slice (some ⟨fb, 0, none⟩) 3 3)
  worker : w.cell? ⟨lb, 2, none⟩ = some (.int .i64 wi)
  name : w.cell? ⟨fb, 4 * wi, none⟩ = some (.string nm)
  bits : w.cell? ⟨fb, 4 * wi + 1, none⟩ = some (.int .i64 b)
  shift : w.cell? ⟨fb, 4 * wi + 2, none⟩ = some (.int .i64 sh)
  tick : w.cell? ⟨fb, 4 * wi + 3, none⟩ = some (.int .i64 0)
  llt : lb < w.heap.size
  flt : fb < w.heap.size

theorem IsLay.later {w w' : World} {lb fb wi : Nat} {nm : ByteArray} {b sh : Int} (h : IsLay w lb fb wi nm b sh) (hb : Below w.heap.size w w') : IsLay w' lb fb wi nm b sh :=
  ⟨(hb.cell (p := ⟨lb, 0, none⟩) h.llt).trans h.fields, (hb.cell (p := ⟨lb, 2, none⟩) h.llt).trans h.worker, (hb.cell (p := ⟨fb, _, none⟩) h.flt).trans h.name, (hb.cell (p := ⟨fb, _, none⟩) h.flt).trans h.bits,
    (hb.cell (p := ⟨fb, _, none⟩) h.flt).trans h.shift, (hb.cell (p := ⟨fb, _, none⟩) h.flt).trans h.tick, Nat.lt_of_lt_of_le h.llt hb.size, Nat.lt_of_lt_of_le h.flt hb.size⟩

theorem five (w : World) (o1 o2 o3 o4 o5 : Obj) : Below w.heap.size w (((((w.alloc o1).alloc o2).alloc o3).alloc o4).alloc o5) :=
  (((((Below.refl _ _).alloc (Nat.le_refl _) _).alloc (by simp) _).alloc (by simp; omega) _).alloc (by simp; omega) _).alloc (by simp; omega) _

set_option maxHeartbeats 1000000 in
theorem lay_top (t b s : Int) (w : World) (ht : 1 ≤ t) (hb : 1 ≤ b) (hs : 1 ≤ s) (h : t + b + s ≤ 64) :
    Calls Tryf.prog 4 #[.int .i64 t, .int .i64 b, .int .i64 s, .bool true] w fun e w' => ∃ lb fb nm, e = .returned (.pointer (some ⟨lb, 0, none⟩)) ∧ IsLay w' lb fb 0 nm b (t + s) ∧ Below w.heap.size w w' := by
  go_enter Tryf.func4, Tryf.ntmps4
  go_wp2
  go_ret
  refine ⟨w.heap.size + 1 + 1 + 1 + 1, w.heap.size + 1 + 1 + 1, ⟨#[119, 111, 114, 107, 101, 114]⟩, rfl, ⟨?_, ?_, ?_, ?_, ?_, ?_, ?_, ?_⟩, five _ _ _ _ _ _⟩
  all_goals simp [World.cell?_alloc_at, World.cell?_alloc_past]
  all_goals omega

set_option maxHeartbeats 1000000 in
theorem lay_mid (t b s : Int) (w : World) (ht : 1 ≤ t) (hb : 1 ≤ b) (hs : 1 ≤ s) (h : t + b + s ≤ 64) :
    Calls Tryf.prog 4 #[.int .i64 t, .int .i64 b, .int .i64 s, .bool false] w fun e w' => ∃ lb fb nm, e = .returned (.pointer (some ⟨lb, 0, none⟩)) ∧ IsLay w' lb fb 1 nm b s ∧ Below w.heap.size w w' := by
  go_enter Tryf.func4, Tryf.ntmps4
  go_wp2
  go_ret
  refine ⟨w.heap.size + 1 + 1 + 1 + 1, w.heap.size + 1 + 1 + 1, ⟨#[119, 111, 114, 107, 101, 114]⟩, rfl, ⟨?_, ?_, ?_, ?_, ?_, ?_, ?_, ?_⟩, five _ _ _ _ _ _⟩
  all_goals simp [World.cell?_alloc_at, World.cell?_alloc_past]
  all_goals omega

theorem wrap_u64_in {x : Int} (h0 : 0 ≤ x) (h1 : x < 18446744073709551616) : IntKind.u64.wrap x = x := by
  rw [IntKind.wrap_u64]
  omega

set_option maxHeartbeats 400000 in
theorem maxf (n : Value) (b s t p : Int) (w : World) (hb : 1 ≤ b) (hb2 : b ≤ 62) (hp : (2 : Int) ^ b.toNat = p) (hp1 : 2 ≤ p) (hp2 : p ≤ 4611686018427387904) :
    Calls Tryf.prog 9 #[.agg #[n, .int .i64 b, .int .i64 s, .int .i64 t]] w fun e w' => e = .returned (.int .u64 (p - 1)) ∧ w' = w.alloc (.cells #[n, .int .i64 b, .int .i64 s, .int .i64 t] 32) := by
  have HE : Hid (IntKind.u64.wrap (IntKind.u64.wrap (2 ^ b.toNat) - 1) = p - 1) := by
    rw [Hid, hp, wrap_u64_in (x := p) (by omega) (by omega), wrap_u64_in (x := p - 1) (by omega) (by omega)]
  clear hp
  go_enter Tryf.func9, Tryf.ntmps9
  go_wp2
  go_ret
  exact ⟨congrArg (fun z => Ending.returned (.int .u64 z)) HE.out, rfl⟩

set_option maxHeartbeats 400000 in
theorem want_mid (t b s p : Int) (tp : Bool) (w : World) (ht : 1 ≤ t) (hb : 1 ≤ b) (hs : 1 ≤ s) (h : t + b + s ≤ 64) (htp : tp = false ∨ (t + b + s == 64) = false) (hp : (2 : Int) ^ b.toNat = p) (hp1 : 2 ≤ p) (hp2 : p ≤ 4611686018427387904) :
    Calls Tryf.prog 6 #[.int .i64 t, .int .i64 b, .int .i64 s, .bool tp] w fun e w' => e = .returned (.int .i64 (p - 1)) ∧ w = w' := by
  rcases htp with rfl | htp
  · go_enter Tryf.func6, Tryf.ntmps6
    go_wp2
    go_ret
    exact ⟨rfl, rfl⟩
  · cases tp
    · go_enter Tryf.func6, Tryf.ntmps6
      go_wp2
      go_ret
      exact ⟨rfl, rfl⟩
    · go_enter Tryf.func6, Tryf.ntmps6
      go_wp2
      go_ret
      exact ⟨rfl, rfl⟩

set_option maxHeartbeats 400000 in
theorem want_top (t b s p : Int) (w : World) (ht : 1 ≤ t) (hb : 1 ≤ b) (hs : 1 ≤ s) (h : t + b + s ≤ 64) (he : (t + b + s == 64) = true) (hp : (2 : Int) ^ (b.toNat - 1) = p) (hp1 : 1 ≤ p) (hp2 : p ≤ 4611686018427387904) :
    Calls Tryf.prog 6 #[.int .i64 t, .int .i64 b, .int .i64 s, .bool true] w fun e w' => e = .returned (.int .i64 (p - 1)) ∧ w = w' := by
  go_enter Tryf.func6, Tryf.ntmps6
  go_wp2
  go_ret
  exact ⟨rfl, rfl⟩

theorem two_new (w : World) (o1 o2 : Obj) : Below w.heap.size w ((w.alloc o1).alloc o2).drew.drew := (((Below.refl _ _).alloc (Nat.le_refl _) _).alloc (by simp) _).drew.drew

theorem wrap_i64_in {x : Int} (h0 : -9223372036854775808 ≤ x) (h1 : x ≤ 9223372036854775807) : IntKind.i64.wrap x = x := by
  rw [IntKind.wrap_i64]
  omega

end Go.Proofs.Qxb6612894aFmt
