/- The walk of FnSwapInvolutionAndSymmetry. -/
import Derived.Test.YtdgnkkjkjdlmcaaSwl
namespace Go.Proofs.Ytdgnkkjkjdlmcaa
open Go.RowKit
set_option linter.unusedVariables false

theorem IsStrs.below {w w' : World} {a : Option Addr} {len cap : Nat} {ss : List ByteArray} (h : IsStrs w a len cap ss) (hb : Below w.heap.size w w') : IsStrs w' a len cap ss :=
  ⟨h.1, h.2.1, h.2.2.1, h.2.2.2.1, h.2.2.2.2.1, (h.2.2.2.2.2.below hb).mono hb.size⟩

theorem sw_twice (ss : List ByteArray) (i j : Nat) (x y : ByteArray) (hx : ss[i]? = some x) (hy : ss[j]? = some y) : sw (sw ss i j x y) i j y x = ss := by
  apply List.ext_getElem?
  intro k
  have h1 := sw_i ss i j x y hx hy
  have h2 := sw_j ss i j x y hy
  by_cases kj : k = j
  · subst kj
    rw [sw_j _ i k y x h2, hy]
  · by_cases ki : k = i
    · subst ki
      rw [sw_i _ k j y x h1 h2, hx]
    · rw [sw_k _ i j k y x ki kj, sw_k _ i j k x y ki kj]
theorem sw_sym (ss : List ByteArray) (i j : Nat) (x y : ByteArray) (hx : ss[i]? = some x) (hy : ss[j]? = some y) : sw ss i j x y = sw ss j i y x := by
  apply List.ext_getElem?
  intro k
  by_cases kj : k = j
  · subst kj
    rw [sw_j _ i k x y hy, sw_i ss k i y x hy hx]
  · by_cases ki : k = i
    · subst ki
      rw [sw_i _ k j x y hx hy, sw_j _ j k y x hx]
    · rw [sw_k _ i j k x y ki kj, sw_k _ j i k y x kj ki]
theorem sw_len (ss : List ByteArray) (i j : Nat) (x y : ByteArray) : (sw ss i j x y).length = ss.length := by simp [sw]

set_option maxHeartbeats 800000 in
theorem sameAs_any (w : World) (g : Nat) (a : Option Addr) (len cap : Nat) (ss : List ByteArray) (h : IsStrs w a len cap ss) (hb : Blk w g 46 (ss.map Value.string).toArray) (hle : len ≤ 65536) :
    Calls Try.prog 31 #[.slice (some ⟨g, 0, none⟩) len len, .slice a len cap] w fun e w' => e = .returned (.bool true) ∧ ∃ m, w' = w.drewN m := by
  obtain ⟨hl, hlc, hcm, hn, hs, hr⟩ := h
  have HL := Lib.hid hl
  have HR := Lib.hid hr
  have HB := Lib.hid hb
  clear hs hn hcm hl hr hb
  go_enter Try.func31, Try.ntmps31
  go_wp2
  go_loopw [5] (fun i wr => ∃ k m : Nat, k ≤ len ∧ i = .int .i64 k ∧ wr = w.drewN m) (fun i _ => len - (intOf i).toNat)
  case atStart => exact ⟨0, 0, Nat.zero_le _, rfl, rfl⟩
  case round =>
    obtain ⟨k, m, hk, rfl, rfl⟩ := hrel
    by_cases hlt : k < len
    · obtain ⟨b, off, rfl, hbb, hc⟩ := HR.out.pos (by simp [HL.out]; omega)
      obtain ⟨z, hz⟩ : ∃ z, ss[k]? = some z := ⟨ss[k]'(by rw [HL.out]; omega), by simp⟩
      have c1 := hc k (.string z) (by simp [hz])
      have c2 := blk_str HB.out hz
      clear hc hz
      go_wp2
      go_quiet (fail)
      go_wp2
      go_roundw
      case rel => exact ⟨k + 1, _, by omega, by go_num, by first | rfl | (simp only [World.drewN_drewN]; rfl)⟩
      case measure => simp [intOf]; omega
    · go_wp2
      go_ret
      exact ⟨rfl, _, rfl⟩

set_option maxHeartbeats 3200000 in
theorem swapInvLaw (w : World) (a : Option Addr) (len cap : Nat) (ss : List ByteArray) (i j : Int) (h : IsStrs w a len cap ss) :
    Calls Try.prog 7 #[.slice a len cap, .int .i64 i, .int .i64 j] w fun e w' => e = .returned (.bool true) ∧ Below w.heap.size w w' := by
  have h' := h
  obtain ⟨hl, hlc, hcm, hn, hs, hr⟩ := h'
  unfold maxLen at hcm
  have HL := Lib.hid hl
  have HS := Lib.hid hs
  have H := Lib.hid h
  have HR := Lib.hid hr
  clear hl hn hs hr h
  go_enter Try.func7, Try.ntmps7
  go_wp2_with fail
  refine (guard29 _ _ _ _ _ _ _ H.out).mono ?_
  rintro e w1 ⟨b, rfl, rfl⟩
  cases b
  · go_wp2_with fail
    go_ret
    exact ⟨rfl, Below.refl _ _⟩
  by_cases h1 : 65536 < len
  · go_wp2_with fail
    go_ret
    exact ⟨rfl, Below.refl _ _⟩
  go_wp2_with fail
  refine (bytes_any _ _ _ _ _ H.out).mono ?_
  rintro e w1 ⟨n, rfl, rfl⟩
  by_cases h2 : 1048576 < n
  · go_wp2_with fail
    go_ret
    exact ⟨rfl, Below.refl _ _⟩
  by_cases h3 : 0 ≤ i ∧ 0 ≤ j ∧ i < len ∧ j < len
  rotate_left
  · go_wp2_with fail
    all_goals (go_ret; exact ⟨rfl, Below.refl _ _⟩)
  obtain ⟨h3, h4, h5, h6⟩ := h3
  obtain ⟨i, rfl⟩ := Int.eq_ofNat_of_zero_le h3
  obtain ⟨j, rfl⟩ := Int.eq_ofNat_of_zero_le h4
  obtain ⟨x, hx⟩ : ∃ x, ss[i]? = some x := ⟨ss[i]'(by rw [HL.out]; omega), by simp⟩
  obtain ⟨y, hy⟩ : ∃ y, ss[j]? = some y := ⟨ss[j]'(by rw [HL.out]; omega), by simp⟩
  have HX := Lib.hid hx
  have HY := Lib.hid hy
  clear hx hy
  have h1i := Lib.hid (sw_i ss i j x y HX.out HY.out)
  have h1j := Lib.hid (sw_j ss i j x y HY.out)
  go_wp2_with fail
  refine (idents_any _ _ _ _ _ H.out (by omega)).mono ?_
  rintro e w1 ⟨rfl, hblk, hbel⟩
  have HB := Lib.hid hblk
  clear hblk
  go_wp2_with fail
  refine (zswap_any _ _ _ _ _ ss HB.out (by omega) (by omega) (by omega) x y HX.out HY.out).mono ?_
  rintro e w2 ⟨rfl, hblk2, hgr⟩
  have hbel2 := hbel.grown hgr hbel.size (by intro k hk; injection hk with hk; omega)
  have HB2 := Lib.hid hblk2
  clear HB hblk2 hgr hbel
  go_wp2_with fail
  refine (zswap_any _ _ _ _ _ _ HB2.out (by omega) (by omega) (by omega) y x h1i.out h1j.out).mono ?_
  rintro e w3 ⟨rfl, hblk3, hgr⟩
  have hbel3 := hbel2.grown hgr hbel2.size (by intro k hk; injection hk with hk; omega)
  rw [sw_twice ss i j x y HX.out HY.out] at hblk3
  have HB3 := Lib.hid hblk3
  clear HB2 hblk3 hgr hbel2
  go_wp2_with fail
  refine (sameAs_any _ _ _ _ _ ss (H.out.below hbel3) HB3.out (by omega)).mono ?_
  rintro e w4 ⟨rfl, m, rfl⟩
  have hbel4 := below_drewN hbel3 m
  have hb3z := hbel4.size
  clear HB3
  go_wp2_with fail
  refine (idents_any _ _ _ _ _ (H.out.below hbel4) (by omega)).mono ?_
  rintro e w5 ⟨rfl, hblk5, hbel5⟩
  have GZ5 := bel_old hbel4 hbel5 hbel4.size
  have HB5 := Lib.hid hblk5
  clear hblk5 hbel3 hbel4 hbel5
  obtain ⟨G5, Z5⟩ := GZ5
  have l5 := HB5.out.lt
  go_wp2_with fail
  refine (idents_any _ _ _ _ _ (H.out.below G5) (by omega)).mono ?_
  rintro e w6 ⟨rfl, hblk6, hbel6⟩
  have GZ6 := bel_old G5 hbel6 Z5
  have HB6b := Lib.hid (HB5.out.under hbel6)
  have HB6c := Lib.hid hblk6
  clear hblk6 hbel6 HB5 G5
  obtain ⟨G6, Z6⟩ := GZ6
  have zb : w.heap.size ≤ w3.heap.size := hb3z
  have l5' : w3.heap.size < w5.heap.size := l5
  have HB6x : Hid (Blk w6 w3.heap.size 46 (ss.map Value.string).toArray) := HB6b
  clear HB6b l5 hb3z
  have HB6b := HB6x
  clear HB6x
  have hne : w3.heap.size ≠ w5.heap.size := by omega
  generalize w3.heap.size = gb at *
  generalize w5.heap.size = gc at *
  go_wp2_with fail
  refine (zswap_any _ _ _ _ _ ss HB6b.out (by omega) (by omega) (by omega) x y HX.out HY.out).mono ?_
  rintro e w7 ⟨rfl, hblk7, hgr⟩
  have G7 := G6.grown hgr Z6 (by intro k hk; injection hk with hk; omega)
  have Z7 := Nat.le_trans Z6 hgr.size
  have HB7b := Lib.hid hblk7
  have HB7c := Lib.hid (HB6c.out.grown hgr (by intro e; injection e with e; omega))
  clear hblk7 hgr HB6b HB6c G6 Z6
  go_wp2_with fail
  refine (zswap_any _ _ _ _ _ ss HB7c.out (by omega) (by omega) (by omega) y x HY.out HX.out).mono ?_
  rintro e w8 ⟨rfl, hblk8, hgr⟩
  have G8 := G7.grown hgr Z7 (by intro k hk; injection hk with hk; omega)
  have HB8b := Lib.hid (HB7b.out.grown hgr (by intro e; injection e with e; omega))
  rw [← sw_sym ss i j x y HX.out HY.out] at hblk8
  have HB8c := Lib.hid hblk8
  have HK := Lib.hid (sw_len ss i j x y)
  clear hblk8 hgr HB7b HB7c G7 Z7
  go_wp2_with fail
  go_loopw [10] (fun t wr => ∃ k m : Nat, k ≤ len ∧ t = .int .i64 k ∧ wr = w8.drewN m) (fun t _ => len - (intOf t).toNat)
  case atStart => exact ⟨0, 0, Nat.zero_le _, rfl, rfl⟩
  case round =>
    obtain ⟨k, m, hk, rfl, rfl⟩ := hrel
    by_cases hkl : k < len
    · obtain ⟨z, hz⟩ : ∃ z, (sw ss i j x y)[k]? = some z := ⟨(sw ss i j x y)[k]'(by rw [HK.out, HL.out]; omega), by simp⟩
      have c1 := blk_str HB8b.out hz
      have c2 := blk_str HB8c.out hz
      clear hz
      go_wp2
      go_quiet (fail)
      go_wp2
      go_roundw
      case rel => exact ⟨k + 1, _, by omega, by go_num, by first | rfl | (simp only [World.drewN_drewN]; rfl)⟩
      case measure => simp [intOf]; omega
    · go_wp2
      go_ret
      exact ⟨rfl, below_drewN G8 _⟩
end Go.Proofs.Ytdgnkkjkjdlmcaa
