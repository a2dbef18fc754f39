import Derived.Test.Qxb6612537aWalkD
import Derived.Maps.AppendAt
namespace Go.Proofs.Qxb6612537a
open Go.RowKit

set_option maxRecDepth 100000 in
set_option maxHeartbeats 2000000 in
theorem keep_short (a : Option Addr) (len cap : Nat) (z : Nat → Int) (x : Int) (w : World) (hl : len ≤ 65536) (h : Ints w a len z) :
    Calls Try.prog 6 #[.slice a len cap, .int .i64 x] w fun e w' => e = .returned (.bool true) ∧ Below w.heap.size w w' := by
  obtain ⟨i3, hi3, _, hs3, _⟩ := info_parts info3
  obtain ⟨i41, hi41, _, hs41, _⟩ := info_parts info41
  go_enter Try.func6, Try.ntmps6
  go_wp2_with fail
  refine (bytes20 _ len _ _ _ hl).mono ?_
  rintro e w1 ⟨rfl, rfl⟩
  go_wp2_with fail
  refine (asc_any a len cap z _ (by omega) h).mono ?_
  rintro e w1 ⟨r, rfl, hr, n, rfl⟩
  cases r with
  | false =>
    go_wp2
    go_ret
    exact ⟨rfl, below_drewN (Below.refl _ _) _⟩
  | true =>
  have HR : Hid (∀ i, i + 1 < len → z i < z (i + 1)) := hr.1 rfl
  clear hr
  have hbn : Below w.heap.size w (w.drewN n) := below_drewN (Below.refl _ _) n
  have h1 := h.later hbn
  go_wp2
  go_loop [5] (fun i => ∃ k : Nat, k ≤ len ∧ i = .int .i64 k ∧ ∀ j, j < k → z j ≠ x) (fun i => len - (intOf i).toNat)
  case atStart => exact ⟨0, by omega, rfl, fun j hj => by omega⟩
  case round =>
    obtain ⟨k, hk, rfl, hne⟩ := hrel
    by_cases hlt : k < len
    · rcases h with h0 | ⟨b, off, rfl, hb, hc1⟩
      · omega
      have hzk := hc1 k hlt
      by_cases hx : z k = x
      · have hxb : (z k == x) = true := by rw [hx]; exact beq_self_eq_true x
        clear hx
        go_wp2
        go_ret
        exact ⟨rfl, hbn⟩
      · have hxb : (z k == x) = false := by simp [hx]
        have HX : Hid (∀ j, j < k + 1 → z j ≠ x) := fun j hj => by
          by_cases e : j = k
          · subst e; exact hx
          · exact hne j (by omega)
        clear hx hne
        go_wp2
        go_round
        case rel => exact ⟨k + 1, by omega, by go_num, HX.out⟩
        case measure => simp [intOf]; omega
    · have he : k = len := by omega
      subst he
      have HN : Hid (∀ j, j < k → z j ≠ x) := hne
      clear hne
      go_wp2_with fail
      refine (build_any a k cap z _ hl h1).mono ?_
      rintro e w1 ⟨rfl, hp, hbl⟩
      simp only [World.heap_drewN] at hp hbl ⊢
      go_wp2_with fail
      refine (newp18 _ _).mono ?_
      rintro e w2 ⟨rfl, hn⟩
      have hbw : Below w.heap.size w w2 := (hbn.trans hbl).trans (hn.below.mono hbl.size)
      have h2 := h.later hbw
      have hsz := hp.size
      obtain ⟨g1, g2⟩ := hp.and hn
      have g3 := hn.index
      rw [hsz] at g3 ⊢
      clear hn hbl hp hbn h hsz h1
      have G1 : Hid (∀ i, i < k → w2.cell? ⟨w.heap.size, i, none⟩ = some (.pointer (some ⟨w.heap.size + 1 + 3 * i + 1, 0, none⟩))) := g1
      clear g1
      go_wp2_with fail
      refine (place19 w.heap.size k k (w.heap.size + 1 + 3 * k + 1) (fun i => w.heap.size + 1 + 3 * i + 1) z x _ (by omega) G1.out g2 g3).mono ?_
      rintro e w3 ⟨t, r, ht, rfl, p1, p2, p3, d, rfl⟩
      have hr : r = false := by
        cases r with
        | false => rfl
        | true => exact absurd (p3.1 rfl) (by simp only []; omega)
      subst hr
      have hA := gz_asc HR.out HN.out ht p1 p2
      have HA : Hid (∀ i, i + 1 < k + 1 → gz z x t i < gz z x t (i + 1)) := hA
      clear p1 p2 p3 hA
      have hmi := make_ints0 (k + 1) ((k : Int) + 1) (by omega) (by omega)
      have hmp := make_ptrs0 (k + 1) ((k : Int) + 1) (by omega) (by omega)
      have hk0 : decide ((t : Int) < 0) = false := decide_eq_false (by omega)
      have hk1 : decide (k < t) = false := decide_eq_false (by omega)
      have hT0 := Two.start (w2.drewN d) (k + 1) (by omega) (gz z x t) (gq w.heap.size (w.heap.size + 1 + 3 * k + 1) t)
      simp only [World.heap_drewN] at hT0
      have hbs := hbw.size
      go_wp2
      go_loopw [10, 11, 12] (fun u v i wr => ∃ j : Nat, j ≤ t ∧ i = .int .i64 j ∧ u = .slice (some ⟨w2.heap.size, 0, none⟩) j (k + 1) ∧ v = .slice (some ⟨w2.heap.size + 1, 0, none⟩) j (k + 1) ∧ Two (w2.drewN d) w2.heap.size (k + 1) (gz z x t) (gq w.heap.size (w.heap.size + 1 + 3 * k + 1) t) j j wr) (fun _ _ i _ => t - (intOf i).toNat)
      case atStart => exact ⟨0, by omega, rfl, rfl, rfl, hT0⟩
      case round =>
        clear hT0
        obtain ⟨j, hj, rfl, rfl, rfl, hT⟩ := hrel
        by_cases hlt : j < t
        · rcases h2 with h0 | ⟨b, off, rfl, hb, hc⟩
          · omega
          have hcj : wr.cell? ⟨b, off + j, none⟩ = some (.int .i64 (z j)) := (hT.below.cell (p := ⟨b, off + j, none⟩) hb).trans (by simpa using hc j (by omega))
          clear hc
          go_wp2_with (first
            | (at_builtin; refine wpList_append_fits _ rfl (.tmp 72) (.tmp 77) 36 rfl w2.heap.size 3 i3 1 Try.underlying36 hi3 hs3 w2.heap.size j (k + 1) _ rfl (hT.ints.alloc _) ⟨wr.heap.size, 0, none⟩ 1 1 [.int .i64 (z j)] rfl rfl (cell_one_new _ _ _) (by intro u hu; simp at hu; subst hu; rfl) (by omega) ?_; intro w3 ho3 hg3; have hT3 := hT.int _ (gz_lo hlt) ho3 hg3; have hpj : w3.cell? ⟨w.heap.size, j, none⟩ = some (.pointer (some ⟨w.heap.size + 1 + 3 * j + 1, 0, none⟩)) := (hT3.below.cell (p := ⟨w.heap.size, j, none⟩) (by have := g3.lt; simp; omega)).trans (by simpa using G1.out j (by omega)))
            | (at_builtin; refine wpList_append_fits _ rfl (.tmp 79) (.tmp 84) 39 rfl w2.heap.size 41 i41 1 Try.underlying39 hi41 hs41 (w2.heap.size + 1) j (k + 1) _ rfl (hT3.ptrs.alloc _) ⟨w3.heap.size, 0, none⟩ 1 1 [.pointer (some ⟨w.heap.size + 1 + 3 * j + 1, 0, none⟩)] rfl rfl (cell_one_new _ _ _) (by intro u hu; simp at hu; subst hu; rfl) (by omega) ?_; intro w4 ho4 hg4))
          go_roundw
          case rel =>
            have hT4 := hT3.ptr _ (gq_lo hlt) ho4 hg4
            clear ho3 hg3 ho4 hg4 hT3
            exact ⟨j + 1, by omega, by go_num, rfl, rfl, hT4⟩
          case measure => simp [intOf]; omega
        · have he : j = t := by omega
          subst he
          go_wp2_with (first
            | (at_builtin; refine wpList_append_fits _ rfl (.tmp 86) (.tmp 88) 36 rfl w2.heap.size 3 i3 1 Try.underlying36 hi3 hs3 w2.heap.size j (k + 1) _ rfl (hT.ints.alloc _) ⟨wr.heap.size, 0, none⟩ 1 1 [.int .i64 x] rfl rfl (cell_one_new _ _ _) (by intro u hu; simp at hu; subst hu; rfl) (by omega) ?_; intro w3 ho3 hg3; have hT3 := hT.int _ gz_at ho3 hg3)
            | (at_builtin; refine wpList_append_fits _ rfl (.tmp 90) (.tmp 92) 39 rfl w2.heap.size 41 i41 1 Try.underlying39 hi41 hs41 (w2.heap.size + 1) j (k + 1) _ rfl (hT3.ptrs.alloc _) ⟨w3.heap.size, 0, none⟩ 1 1 [.pointer (some ⟨w.heap.size + 1 + 3 * k + 1, 0, none⟩)] rfl rfl (cell_one_new _ _ _) (by intro u hu; simp at hu; subst hu; rfl) (by omega) ?_; intro w4 ho4 hg4))
          have hT4 := hT3.ptr _ gq_at ho4 hg4
          clear ho3 hg3 ho4 hg4 hT3 hT
          go_loopw [10, 11, 13] (fun u v i wr => ∃ l : Nat, j ≤ l ∧ l ≤ k ∧ i = .int .i64 l ∧ u = .slice (some ⟨w2.heap.size, 0, none⟩) (l + 1) (k + 1) ∧ v = .slice (some ⟨w2.heap.size + 1, 0, none⟩) (l + 1) (k + 1) ∧ Two (w2.drewN d) w2.heap.size (k + 1) (gz z x j) (gq w.heap.size (w.heap.size + 1 + 3 * k + 1) j) (l + 1) (l + 1) wr) (fun _ _ i _ => k - (intOf i).toNat)
          case atStart => exact ⟨j, by omega, by omega, rfl, rfl, rfl, hT4⟩
          case round =>
            clear hT4
            obtain ⟨l, hl1, hl2, rfl, rfl, rfl, hT⟩ := hrel
            by_cases hlt3 : l < k
            · rcases h2 with h0 | ⟨b, off, rfl, hb, hc⟩
              · omega
              have hcj : wr.cell? ⟨b, off + l, none⟩ = some (.int .i64 (z l)) := (hT.below.cell (p := ⟨b, off + l, none⟩) hb).trans (by simpa using hc l (by omega))
              clear hc
              go_wp2_with (first
                | (at_builtin; refine wpList_append_fits _ rfl (.tmp 101) (.tmp 106) 36 rfl w2.heap.size 3 i3 1 Try.underlying36 hi3 hs3 w2.heap.size (l + 1) (k + 1) _ rfl (hT.ints.alloc _) ⟨wr.heap.size, 0, none⟩ 1 1 [.int .i64 (z l)] rfl rfl (cell_one_new _ _ _) (by intro u hu; simp at hu; subst hu; rfl) (by omega) ?_; intro w3 ho3 hg3; have hT3 := hT.int _ (gz_hi hl1) ho3 hg3; have hpj : w3.cell? ⟨w.heap.size, l, none⟩ = some (.pointer (some ⟨w.heap.size + 1 + 3 * l + 1, 0, none⟩)) := (hT3.below.cell (p := ⟨w.heap.size, l, none⟩) (by have := g3.lt; simp; omega)).trans (by simpa using G1.out l (by omega)))
                | (at_builtin; refine wpList_append_fits _ rfl (.tmp 108) (.tmp 113) 39 rfl w2.heap.size 41 i41 1 Try.underlying39 hi41 hs41 (w2.heap.size + 1) (l + 1) (k + 1) _ rfl (hT3.ptrs.alloc _) ⟨w3.heap.size, 0, none⟩ 1 1 [.pointer (some ⟨w.heap.size + 1 + 3 * l + 1, 0, none⟩)] rfl rfl (cell_one_new _ _ _) (by intro u hu; simp at hu; subst hu; rfl) (by omega) ?_; intro w4 ho4 hg4))
              go_roundw
              case rel => exact ⟨l + 1, by omega, by omega, by go_num, rfl, rfl, hT3.ptr _ (gq_hi hl1) ho4 hg4⟩
              case measure => simp [intOf]; omega
            · have he : l = k := by omega
              subst he
              clear h2 hmi hmp hi3 hi41 hs3 hs41
              go_wp2_with fail
              refine (asc w2.heap.size 0 (l + 1) (l + 1) (gz z x j) _ (by omega) hT.intAt).mono ?_
              rintro e w5 ⟨r, rfl, hr, n5, rfl⟩
              have hr' : r = true := hr.2 HA.out
              subst hr'
              clear hr
              have hT5 := hT.drewN n5
              go_wp2_with fail
              refine (place19 (w2.heap.size + 1) (l + 1) (l + 1) (w.heap.size + 1 + 3 * l + 1) (gq w.heap.size (w.heap.size + 1 + 3 * l + 1) j) (gz z x j) x _ (by omega) hT5.ptrAt (fun i hi => hT5.part (grown_part g2 g3 hl1 i hi) (grown_part g2 g3 hl1 i hi).lt) (hT5.part g3 g3.lt)).mono ?_
              rintro e w6 ⟨i, r, hi, rfl, p1, p2, p3, d6, rfl⟩
              have hij : i = j := place_own (z := gz z x j) (n := l + 1) (m := j) HA.out (by omega) (by rw [gz_at]; exact p1) (by rw [gz_at]; exact p2)
              have hr : r = true := p3.2 ⟨by omega, by rw [hij, gq_at]⟩
              subst hij
              subst hr
              clear p1 p2 p3
              go_wp2
              go_ret
              exact ⟨rfl, below_drewN ((below_drewN hbw d).trans (hT.below.mono hbs)) _⟩

theorem keep_any (a : Option Addr) (len cap : Nat) (z : Nat → Int) (x : Int) (w : World) (hm : len ≤ maxLen) (h : Ints w a len z) :
    Calls Try.prog 6 #[.slice a len cap, .int .i64 x] w fun e w' => e = .returned (.bool true) ∧ Below w.heap.size w w' := by
  by_cases hl : len ≤ 65536
  · exact keep_short a len cap z x w hl h
  · refine (keep_long a len cap x w (by omega) hm).mono ?_
    rintro e w' ⟨he, rfl⟩
    exact ⟨he, Below.refl _ _⟩
end Go.Proofs.Qxb6612537a
