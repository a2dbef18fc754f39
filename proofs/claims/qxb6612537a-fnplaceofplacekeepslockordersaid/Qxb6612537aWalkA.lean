import Derived.Test.Qxb6612537aRows
import Derived.WalkKit
import Derived.WalkSpells
import Derived.WalkLawsBesides
import Derived.Deep.QuietTactic
import Derived.BigQuiet
import Derived.LaidEqlPtr
namespace Go.Proofs.Qxb6612537a
open Go.RowKit

theorem info41 : (Try.prog.info? 41).map (fun i => (i.zero, i.size, i.bytes)) = some (some (.pointer none), 1, 8) := by kernel_rfl
theorem info3 : (Try.prog.info? 3).map (fun i => (i.zero, i.size, i.bytes)) = some (some (.int .i64 0), 1, 8) := by kernel_rfl

set_option maxHeartbeats 400000 in
theorem bytes_yes (a : Option Addr) (len cap : Nat) (x y : Int) (w : World) (h : len ≤ 65536) :
    Calls Try.prog 15 #[.slice a len cap, .int .i64 x, .int .i64 y] w fun e w' => e = .returned (.bool true) ∧ w = w' := by
  go_enter Try.func15, Try.ntmps15
  go_wp2
  go_ret
  exact ⟨rfl, rfl⟩

/-- A partition's block: its number stands at cell 2. -/
def IsPart (w : World) (b : Nat) (n : Int) : Prop := ∃ cs, w.heap[b]? = some (.cells cs 103 (0, 0)) ∧ cs[2]? = some (.int .i64 n)
theorem IsPart.cell {w : World} {b : Nat} {n : Int} (h : IsPart w b n) : w.cell? ⟨b, 2, none⟩ = some (.int .i64 n) := by
  obtain ⟨cs, h1, h2⟩ := h
  rw [cell_of_row w b 2 cs 103 (0, 0) h1]
  exact h2
theorem IsPart.lt {w : World} {b : Nat} {n : Int} (h : IsPart w b n) : b < w.heap.size := by
  obtain ⟨cs, h1, h2⟩ := h
  exact (Array.getElem?_eq_some_iff.1 h1).1
theorem IsPart.of {w w' : World} {b : Nat} {n : Int} (h : IsPart w b n) (e : w'.heap[b]? = w.heap[b]?) : IsPart w' b n := by
  obtain ⟨cs, h1, h2⟩ := h
  exact ⟨cs, e.trans h1, h2⟩

/-- What newPartition leaves: three new blocks; the middle one is the partition; its number stands at cell 2. -/
structure IsNew (w w' : World) (n : Int) : Prop where
  below : Below w.heap.size w w'
  size : w'.heap.size = w.heap.size + 3
  index : IsPart w' (w.heap.size + 1) n

theorem isNew_mk (w : World) (n : Int) (o : Obj) (c0 c1 c3 c4 c5 c6 c7 c8 c9 ca cb cc cd : Value) (o2 : Obj) :
    IsNew w (((w.alloc o).alloc (.cells #[c0, c1, .int .i64 n, c3, c4, c5, c6, c7, c8, c9, ca, cb, cc, cd] 103)).alloc o2) n := by
  refine ⟨(((Below.refl _ _).alloc (Nat.le_refl _) _).alloc (by simp) _).alloc (by simp; omega) _, by simp, ?_⟩
  refine ⟨#[c0, c1, .int .i64 n, c3, c4, c5, c6, c7, c8, c9, ca, cb, cc, cd], ?_, rfl⟩
  rw [Below.heap_alloc _ _ _ (by simp)]
  have := heap_alloc_new (w.alloc o) (.cells #[c0, c1, .int .i64 n, c3, c4, c5, c6, c7, c8, c9, ca, cb, cc, cd] 103)
  simpa using this

set_option maxHeartbeats 400000 in
theorem newp (n : Int) (w : World) :
    Calls Try.prog 31 #[.int .i64 n] w fun e w' => e = .returned (.pointer (some ⟨w.heap.size + 1, 0, none⟩)) ∧ IsNew w w' n := by
  have hmm := @run_makeMap Try.prog
  go_enter Try.func31, Try.ntmps31
  go_wp2
  go_ret
  exact ⟨rfl, isNew_mk _ _ _ _ _ _ _ _ _ _ _ _ _ _ _ _ _⟩

set_option maxHeartbeats 400000 in
theorem newp18 (n : Int) (w : World) :
    Calls Try.prog 18 #[.int .i64 n] w fun e w' => e = .returned (.pointer (some ⟨w.heap.size + 1, 0, none⟩)) ∧ IsNew w w' n := by
  go_enter Try.func18, Try.ntmps18
  go_wp2_with (go_at_call 31; refine (newp _ _).mono ?_; rintro e w1 ⟨rfl, hn⟩)
  go_ret
  exact ⟨rfl, by assumption⟩

/-- What buildParts has made behind k rounds: block B is the row of pointers, then three blocks a partition. -/
structure Parts (B len k : Nat) (z : Nat → Int) (w : World) : Prop where
  size : w.heap.size = B + 1 + 3 * k
  row : ∃ xs, w.ownsRow B 41 1 (.slice (some ⟨B, 0, none⟩) len len) len xs ∧ ∀ i, i < k → xs[i]? = some (.pointer (some ⟨B + 1 + 3 * i + 1, 0, none⟩))
  index : ∀ i, i < k → IsPart w (B + 1 + 3 * i + 1) (z i)

theorem Parts.start (len : Nat) (z : Nat → Int) (w : World) (h : len ≤ 65536) : Parts w.heap.size len 0 z (w.alloc (.cells (madeCells #[.pointer none] len) 41)) :=
  ⟨by simp, ⟨_, World.ownsRow_lit w _ len (Nat.le_refl _) (by unfold maxLen; omega) (by rw [size_madeCells]; omega), fun i hi => by omega⟩, fun i hi => by omega⟩

theorem Parts.cell {B len k : Nat} {z : Nat → Int} {w w1 : World} {n : Int} (h : Parts B len k z w) (hn : IsNew w w1 n) (hk : k < len) :
    ∃ v, w1.cell? ⟨B, k, none⟩ = some v := by
  obtain ⟨xs, hx, -⟩ := h.row
  have hl := hx.1
  rw [hn.below.cell (p := ⟨B, k, none⟩) (by have := h.size; simp; omega), hx.cellAt k (by omega)]
  exact ⟨_, List.getElem?_eq_getElem (by omega)⟩

theorem Parts.frozen {B len k : Nat} {z : Nat → Int} {w w1 : World} {n : Int} (h : Parts B len k z w) (hn : IsNew w w1 n) :
    w1.frozen? ⟨B, k, none⟩ = false := by
  obtain ⟨xs, hx, -⟩ := h.row
  rw [hn.below.frozen (p := ⟨B, k, none⟩) (by have := h.size; simp; omega)]
  exact hx.frozenAt k

theorem Parts.step {B len k : Nat} {z : Nat → Int} {w w1 : World} (h : Parts B len k z w) (hn : IsNew w w1 (z k)) (hk : k < len) :
    Parts B len (k + 1) z (w1.setCell ⟨B, k, none⟩ (.pointer (some ⟨w.heap.size + 1, 0, none⟩))) := by
  obtain ⟨xs, hx, hp⟩ := h.row
  have hs := h.size
  have hl := hx.1
  have hg : w.grownBy w1 none := ⟨hn.below.os, hn.below.tape, hn.below.output, hn.below.size, fun j hj _ => hn.below.block j hj⟩
  have hx1 : w1.ownsRow B 41 1 (.slice (some ⟨B, 0, none⟩) len len) len xs := hx.kept hg (by simp [Value.ownBlock])
  refine ⟨by simp [hn.size]; omega, ⟨_, (hx1.stored k _).1, fun i hi => ?_⟩, fun i hi => ?_⟩
  · by_cases e : i = k
    · subst e
      rw [List.getElem?_set_self (by omega), hs]
    · rw [List.getElem?_set_ne (by omega)]
      exact hp i (by omega)
  · refine IsPart.of (w := w1) ?_ (Below.heap_setCell _ _ _ _ (by simp; omega))
    by_cases e : i = k
    · subst e
      have := hn.index
      rw [hs] at this
      exact this
    · exact (h.index i (by omega)).of (hn.below.block _ (by omega))

theorem make_parts (len : Nat) (h : len ≤ 65536) (w : World) : (Instr.makeSlice 39 (.int .i64 (len : Int)) (.int .i64 (len : Int))).run Try.prog w =
    .ok (.slice (some ⟨w.heap.size, 0, none⟩) len len) (w.alloc (.cells (madeCells #[.pointer none] len) 41)) := by
  obtain ⟨i0, hi, hz0, hz1, hz2⟩ := info_parts info41
  have := run_make (P := Try.prog) w 39 41 i0 (.pointer none) Try.underlying39 hi hz0 .i64 .i64 len len (by omega) (by omega) (by rw [hz2]; omega) (by omega)
  simpa [hz1, Value.cells] using this

set_option maxHeartbeats 400000 in
theorem build (b off len cap : Nat) (z : Nat → Int) (w : World) (hl : len ≤ 65536) (hb : b < w.heap.size)
    (hc : ∀ j, j < len → w.cell? ⟨b, off + j, none⟩ = some (.int .i64 (z j))) :
    Calls Try.prog 17 #[.slice (some ⟨b, off, none⟩) len cap] w fun e w' => e = .returned (.slice (some ⟨w.heap.size, 0, none⟩) len len) ∧ Parts w.heap.size len len z w' ∧ Below w.heap.size w w' := by
  have hmk := make_parts len hl
  go_enter Try.func17, Try.ntmps17
  go_wp2
  go_loopw [4] (fun i wr => ∃ k : Nat, k ≤ len ∧ i = .int .i64 k ∧ Parts w.heap.size len k z wr ∧ Below w.heap.size w wr) (fun i _ => len - (intOf i).toNat)
  case atStart => exact ⟨0, Nat.zero_le _, rfl, Parts.start len z w hl, (Below.refl _ _).alloc (Nat.le_refl _) _⟩
  case round =>
    obtain ⟨k, hk, rfl, hp, hbl⟩ := hrel
    by_cases hlt : k < len
    · have hcx : wr.cell? ⟨b, off + k, none⟩ = some (.int .i64 (z k)) := (hbl.cell hb).trans (hc k hlt)
      go_wp2_with (go_at_call 18; refine (newp18 _ _).mono ?_; rintro e w1 ⟨rfl, hn⟩; obtain ⟨v1, hv1⟩ := hp.cell hn hlt; have hf1 := hp.frozen hn)
      go_roundw
      case rel => exact ⟨k + 1, by omega, by go_num, hp.step (by simpa using hn) hlt, (hbl.trans (hn.below.mono (by have := hbl.size; omega))).setCell (Nat.le_refl _) _⟩
      case measure => simp [intOf]; omega
    · have he : k = len := by omega
      subst he
      go_wp2
      go_ret
      exact ⟨rfl, hp, hbl⟩

set_option maxHeartbeats 400000 in
theorem asc (b off len cap : Nat) (z : Nat → Int) (w : World) (hl : len ≤ 70000)
    (hc : ∀ j, j < len → w.cell? ⟨b, off + j, none⟩ = some (.int .i64 (z j))) :
    Calls Try.prog 16 #[.slice (some ⟨b, off, none⟩) len cap] w fun e w' => ∃ r : Bool, e = .returned (.bool r) ∧ (r = true ↔ ∀ i, i + 1 < len → z i < z (i + 1)) ∧ ∃ n, w' = w.drewN n := by
  go_enter Try.func16, Try.ntmps16
  go_wp2
  go_loopw [3] (fun i wr => ∃ k : Nat, 1 ≤ k ∧ (k = 1 ∨ k ≤ len) ∧ i = .int .i64 k ∧ (∀ i, i + 1 < k → z i < z (i + 1)) ∧ ∃ n, wr = w.drewN n) (fun i _ => len - (intOf i).toNat)
  case atStart => exact ⟨1, by omega, by omega, rfl, fun i hi => by omega, 0, rfl⟩
  case round =>
    obtain ⟨k, hk1, hk, rfl, hp, n, rfl⟩ := hrel
    by_cases hlt : k < len
    · obtain ⟨k, rfl⟩ : ∃ m, k = m + 1 := ⟨k - 1, by omega⟩
      have hc0 := hc k (by omega)
      have hc1 := hc (k + 1) (by omega)
      by_cases hz : z k < z (k + 1)
      · go_wp2
        go_quiet (fail)
        go_wp2
        go_roundw
        case rel => exact ⟨k + 2, by omega, by omega, by go_num, fun i hi => (by
          by_cases e : i = k
          · subst e; exact hz
          · exact hp i (by omega)), _, rfl⟩
        case measure => simp [intOf]; omega
      · go_wp2
        go_quiet (fail)
        go_wp2
        go_ret
        refine ⟨false, rfl, ⟨fun h => by simp at h, fun h => absurd (h k hlt) (by omega)⟩, _, World.drewN_drewN ..⟩
    · go_wp2
      go_ret
      refine ⟨true, rfl, ⟨fun _ i hi => hp i (by omega), fun _ => rfl⟩, n, rfl⟩

theorem info103 : (Try.prog.info? 103).map (fun i => i.size) = some 14 := by kernel_rfl
theorem eql_same (a : Addr) (w : World) : (binOp .eql 41 (.pointer (some a)) (.pointer (some a))).run Try.prog w = .ok (.bool true) w := by
  obtain ⟨i, hi, _⟩ := Option.map_eq_some_iff.1 info103
  exact run_eql_ptr_same w a Try.underlying41 hi
theorem eql_other {w0 : World} {a b : Nat} {n m : Int} (ha : IsPart w0 a n) (hb : IsPart w0 b m) (hne : a ≠ b) (w : World) (hw : w.heap = w0.heap) :
    (binOp .eql 41 (.pointer (some ⟨a, 0, none⟩)) (.pointer (some ⟨b, 0, none⟩))).run Try.prog w = .ok (.bool false) w := by
  obtain ⟨i, hi, h2⟩ := Option.map_eq_some_iff.1 info103
  obtain ⟨cs, h3, _⟩ := ha
  obtain ⟨ds, h4, _⟩ := hb
  exact run_eql_ptr_other w Try.underlying41 hi (by omega) (fun h => hne (congrArg Addr.block h)) (by rw [hw]; exact h3) (by rw [hw]; exact h4)

/-- What placeOf answers: the first place whose number is not below x; found where p's own block stands there. -/
def PlaceEnd (n pb : Nat) (q : Nat → Nat) (f : Nat → Int) (x : Int) (w : World) (e : Ending) (w' : World) : Prop :=
  ∃ (i : Nat) (r : Bool), i ≤ n ∧ e = .returned (.tuple #[.int .i64 i, .bool r]) ∧ (∀ j, j < i → f j < x) ∧ (i < n → x ≤ f i) ∧ (r = true ↔ i < n ∧ q i = pb) ∧ ∃ m, w' = w.drewN m

set_option maxHeartbeats 400000 in
theorem place (B n c pb : Nat) (q : Nat → Nat) (f : Nat → Int) (x : Int) (w : World) (hn : n ≤ 70000)
    (hq : ∀ i, i < n → w.cell? ⟨B, i, none⟩ = some (.pointer (some ⟨q i, 0, none⟩)))
    (hf : ∀ i, i < n → IsPart w (q i) (f i)) (hp : IsPart w pb x) :
    Calls Try.prog 32 #[.slice (some ⟨B, 0, none⟩) n c, .pointer (some ⟨pb, 0, none⟩)] w fun e w' => PlaceEnd n pb q f x w e w' := by
  have hpc := hp.cell
  go_enter Try.func32, Try.ntmps32
  go_wp2
  go_loopw [6] (fun i wr => ∃ k : Nat, k ≤ n ∧ i = .int .i64 k ∧ (∀ j, j < k → f j < x) ∧ ∃ m, wr = w.drewN m) (fun i _ => n - (intOf i).toNat)
  case atStart => exact ⟨0, by omega, rfl, fun i hi => by omega, 0, rfl⟩
  case round =>
    obtain ⟨k, hk, rfl, hlow, m, rfl⟩ := hrel
    by_cases hlt : k < n
    · have hlt' : (k : Int) < (n : Int) := by omega
      have hq1 := hq k hlt
      have hf1 := (hf k hlt).cell
      by_cases hx : f k < x
      · go_wp2
        go_quiet (fail)
        go_wp2
        go_roundw
        case rel => exact ⟨k + 1, by omega, by go_num, fun i hi => (by
          by_cases e : i = k
          · subst e; exact hx
          · exact hlow i (by omega)), _, rfl⟩
        case measure => simp [intOf]; omega
      · by_cases hqp : q k = pb
        · have H : Hid (q k = pb) := hqp
          rw [hqp] at hq1
          clear hqp hf1 hq
          have he := eql_same ⟨pb, 0, none⟩
          go_wp2
          go_quiet (fail)
          go_wp2
          go_quiet (fail)
          go_wp2
          go_ret2
          exact ⟨k, true, by omega, rfl, hlow, fun _ => (by omega), by simp [hlt, H.out], _, by rw [World.drewN_drewN, World.drewN_drewN]⟩
        · have he := fun m => eql_other (hf k hlt) hp hqp (w.drewN m) rfl
          go_wp2
          go_quiet (fail)
          go_wp2
          go_quiet (fail)
          go_wp2
          go_ret2
          exact ⟨k, false, by omega, rfl, hlow, fun _ => (by omega), by simp [hqp], _, by rw [World.drewN_drewN, World.drewN_drewN]⟩
    · have hd : decide ((k : Int) < (n : Int)) = false := decide_eq_false (by omega)
      go_wp2
      go_quiet (fail)
      go_wp2
      go_quiet (fail)
      go_wp2
      go_ret2
      exact ⟨k, false, by omega, rfl, hlow, fun h => absurd h (by omega), by simp; omega, _, by rw [World.drewN_drewN, World.drewN_drewN]⟩
end Go.Proofs.Qxb6612537a
