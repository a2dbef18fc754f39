import Derived.Test.Qxb6612812aStageF
namespace Go.Proofs.Qxb6612812a
open Go.RowKit

/-- What a law has made: the toxic at block bb, a stage at block sb; nothing that was there before has turned. -/
structure Env (W : World) (bb sb : Nat) (R F G : Int) (w : World) : Prop where
  below : Below W.heap.size W w
  bw : w.heap[bb]? = some (.cells #[.int .i64 R] 26 (0, 0))
  st : w.heap[sb]? = some (stT F G)
  lb : W.heap.size ≤ bb
  ls : W.heap.size ≤ sb
  ne : bb ≠ sb

theorem Env.later {W : World} {bb sb : Nat} {R F G : Int} {w w' : World} (h : Env W bb sb R F G w) (hb : Below w.heap.size w w') : Env W bb sb R F G w' :=
  ⟨h.below.trans (hb.mono h.below.size), below_keeps hb h.bw, below_keeps hb h.st, h.lb, h.ls, h.ne⟩

theorem Env.turn {W : World} {bb sb : Nat} {R F G F' G' : Int} {w w' : World} (h : Env W bb sb R F G w) (hs : w'.heap[sb]? = some (stT F' G')) (hg : w.grownBy w' (some sb)) : Env W bb sb R F' G' w' :=
  ⟨h.below.grown hg h.below.size (fun k e => by simp at e; have := h.ls; omega), (hg.block bb (Array.getElem?_eq_some_iff.1 h.bw).1 (fun e => h.ne (by simpa using e))).trans h.bw, hs, h.lb, h.ls, h.ne⟩

/-- A second stage beside the first. -/
theorem Env.second {W : World} {bb sb sb2 : Nat} {R F G F2 G2 : Int} {w w' : World} (h : Env W bb sb R F G w) (hb : Below w.heap.size w w') (hs : w'.heap[sb2]? = some (stT F2 G2)) (hl : w.heap.size ≤ sb2) : Env W bb sb2 R F2 G2 w' :=
  ⟨h.below.trans (hb.mono h.below.size), below_keeps hb h.bw, hs, h.lb, Nat.le_trans h.below.size hl, fun e => by have := (Array.getElem?_eq_some_iff.1 h.bw).1; omega⟩

/-- The toxic and the first stage. -/
theorem Env.start {W : World} {sb : Nat} {R F : Int} {w' : World} (hb : Below (W.alloc (.cells #[.int .i64 R] 26)).heap.size (W.alloc (.cells #[.int .i64 R] 26)) w') (hs : w'.heap[sb]? = some (stT F 0)) (hl : (W.alloc (.cells #[.int .i64 R] 26)).heap.size ≤ sb) :
    Env W W.heap.size sb R F 0 w' := by
  have hb0 : Below W.heap.size W (W.alloc (.cells #[.int .i64 R] 26)) := (Below.refl _ _).alloc (Nat.le_refl _) _
  have hl' := hl
  rw [World.size_alloc] at hl'
  exact ⟨hb0.trans (hb.mono hb0.size), below_keeps hb (heap_alloc_new W _), hs, Nat.le_refl _, by omega, by omega⟩

/-- The stage is made. -/
theorem newst (T : Int) (w : World) (hT1 : -4611686018427387904 ≤ T) (hT2 : T ≤ 4611686018427387904) :
    Calls Try.prog 6 #[.int .i64 T, .int .i64 0] w fun e w' => ∃ B, e = .returned (.pointer (some ⟨B, 0, none⟩)) ∧ w.heap.size ≤ B ∧ w'.heap[B]? = some (stT T 0) ∧ Below w.heap.size w w' := by
  obtain ⟨n, s, h0, h1, eT, e1, e2⟩ := split T
  unfold stT
  rw [e1, e2, eT]
  exact newstage n s w h0 h1 (by omega) (by omega)

/-- What n bytes take at r KB/s, as the floats reckon it. -/
structure Takes (n r D : Nat) : Prop where
  fl : ∃ P Q : Nat, floatBits .mul .f64 (floatOfInt .f64 (r : Int)) 4652007308841189376 = some P ∧ floatBits .quo .f64 (floatOfInt .f64 (n : Int)) P = some Q ∧
    ∀ w, Calls Try.prog 29 #[.float .f64 Q, .int .i64 1000000000] w fun e w' => e = .returned (.int .i64 (D : Int)) ∧ w = w'
  hi : D ≤ n * 1000000 / r + 2 + n * 1000000 / r / 281474976710656
  lo : n * 1000000 / r ≤ D + 2 + n * 1000000 / r / 281474976710656
  xb : n * 1000000 / r ≤ 1099511627776000000
  db : D ≤ 1152921504606846976

theorem takes (n r : Nat) (hn : n ≤ 1099511627776) (hr0 : 0 < r) (hr : r ≤ 9223372036854775807) : ∃ D, Takes n r D := by
  obtain ⟨P, Q, D, h1, h2, h3, h4, h5⟩ := floats n r hn hr0 hr
  have hx : n * 1000000 / r ≤ 1099511627776000000 := Nat.le_trans (Nat.div_le_self _ _) (by omega)
  exact ⟨D, ⟨P, Q, h1, h2, h3⟩, h4, h5, hx, by omega⟩

/-- ZZbandwidthDue at a positive rate: at m + D, m the later of the arrival T and the link's free time F. -/
theorem zdue_at {W : World} {bb sb r n D : Nat} {F G : Int} {w : World} (m T : Int) (h : Env W bb sb r F G w) (hk : Takes n r D) (hr : 0 < r) (hm : (T < F ∧ m = F) ∨ (F ≤ T ∧ m = T))
    (hF1 : -4611686018427387904 ≤ F) (hF2 : F ≤ 6917529027641081856) (hT1 : -4611686018427387904 ≤ T) (hT2 : T ≤ 4611686018427387904) :
    Calls Try.prog 7 #[.pointer (some ⟨bb, 0, none⟩), .pointer (some ⟨sb, 0, none⟩), .int .i64 T, .int .i64 (n : Int)] w
      fun e w' => e = .returned (.int .i64 (m + D)) ∧ Env W bb sb r F (m + D) w' := by
  obtain ⟨P, Q, hP, hQ, hsp⟩ := hk.fl
  have e : (if T < F then F else T) = m := by
    rcases hm with ⟨h1, h2⟩ | ⟨h1, h2⟩
    · rw [if_pos h1, h2]
    · rw [if_neg (by omega), h2]
  have hz := zdue_pos bb sb r n D P Q F G T w h.bw h.st hr hP hQ hsp hF1 hF2 hT1 hT2 hk.db
  rw [e] at hz
  refine hz.mono ?_
  rintro e w' ⟨he, hs, hg⟩
  exact ⟨he, h.turn hs hg⟩

theorem zdue_no {W : World} {bb sb : Nat} {R F G : Int} {w : World} (T N : Int) (h : Env W bb sb R F G w) (hR : R ≤ 0) (hT1 : -4611686018427387904 ≤ T) (hT2 : T ≤ 4611686018427387904) :
    Calls Try.prog 7 #[.pointer (some ⟨bb, 0, none⟩), .pointer (some ⟨sb, 0, none⟩), .int .i64 T, .int .i64 N] w
      fun e w' => e = .returned (.int .i64 (if 0 < T then 9223372036854775807 else T + 9223372036854775807)) ∧ Env W bb sb R F G w' := by
  refine (zdue_never bb sb R N F G T w h.bw h.st hR hT1 hT2).mono ?_
  rintro e w' ⟨he, hs, hg⟩
  exact ⟨he, h.turn hs hg⟩

theorem zpass {W : World} {bb sb : Nat} {R F G : Int} {w : World} (T N : Int) (h : Env W bb sb R F G w) (hT1 : -9223372036854775808 ≤ T) (hT2 : T ≤ 9223372036854775807) :
    Calls Try.prog 8 #[.pointer (some ⟨bb, 0, none⟩), .pointer (some ⟨sb, 0, none⟩), .int .i64 T, .int .i64 N] w
      fun e w' => e = .returned (.tuple #[]) ∧ Env W bb sb R G G w' := by
  refine (zpassed bb sb F G T N w h.st hT1 hT2).mono ?_
  rintro e w' ⟨he, hs, hg⟩
  exact ⟨he, h.turn hs hg⟩
end Go.Proofs.Qxb6612812a
