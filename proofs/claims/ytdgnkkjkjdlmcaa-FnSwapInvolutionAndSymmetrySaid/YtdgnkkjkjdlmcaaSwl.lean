/- The walk of FnSwapCaseTable. -/
import Derived.Test.YtdgnkkjkjdlmcaaSwp
namespace Go.Proofs.Ytdgnkkjkjdlmcaa
open Go.RowKit
set_option linter.unusedVariables false

theorem sw_i (ss : List ByteArray) (i j : Nat) (x y : ByteArray) (hx : ss[i]? = some x) (hy : ss[j]? = some y) : (sw ss i j x y)[i]? = some y := by
  obtain ⟨hi, hx⟩ := List.getElem?_eq_some_iff.1 hx
  obtain ⟨hj, hy⟩ := List.getElem?_eq_some_iff.1 hy
  unfold sw
  rw [List.getElem?_set]
  split
  · subst i
    rw [if_pos (by simpa using hj)]
    rw [← hx, ← hy]
  · rw [List.getElem?_set_self hi]
theorem sw_j (ss : List ByteArray) (i j : Nat) (x y : ByteArray) (hy : ss[j]? = some y) : (sw ss i j x y)[j]? = some x := by
  obtain ⟨hj, hy⟩ := List.getElem?_eq_some_iff.1 hy
  unfold sw
  rw [List.getElem?_set_self (by simpa using hj)]
theorem sw_k (ss : List ByteArray) (i j k : Nat) (x y : ByteArray) (hi : k ≠ i) (hj : k ≠ j) : (sw ss i j x y)[k]? = ss[k]? := by
  unfold sw
  rw [List.getElem?_set_ne (by omega), List.getElem?_set_ne (by omega)]

set_option maxHeartbeats 1600000 in
theorem swapLaw (w : World) (a : Option Addr) (len cap : Nat) (ss : List ByteArray) (i j : Int) (h : IsStrs w a len cap ss) :
    Calls Try.prog 8 #[.slice a len cap, .int .i64 i, .int .i64 j] w fun e w' => e = .returned (.bool true) ∧ Below w.heap.size w w' := by
  have h' := h
  obtain ⟨hl, hlc, hcm, hn, hs, hr⟩ := h'
  unfold maxLen at hcm
  have HL := Lib.hid hl
  have HS := Lib.hid hs
  have H := Lib.hid h
  have HR := Lib.hid hr
  clear hl hn hs hr h
  go_enter Try.func8, Try.ntmps8
  go_wp2_with fail
  refine (guard32 _ _ _ _ _ _ _ H.out).mono ?_
  rintro e w1 ⟨b, rfl, rfl⟩
  cases b
  · go_wp2_with fail
    go_ret
    exact ⟨rfl, Below.refl _ _⟩
  by_cases h1 : 65536 < len
  · go_wp2_with fail
    go_ret
    exact ⟨rfl, Below.refl _ _⟩
  go_wp2_with fail
  refine (bytes_any _ _ _ _ _ H.out).mono ?_
  rintro e w1 ⟨n, rfl, rfl⟩
  by_cases h2 : 1048576 < n
  · go_wp2_with fail
    go_ret
    exact ⟨rfl, Below.refl _ _⟩
  by_cases h3 : 0 ≤ i ∧ 0 ≤ j ∧ i < len ∧ j < len
  rotate_left
  · go_wp2_with fail
    all_goals (go_ret; exact ⟨rfl, Below.refl _ _⟩)
  obtain ⟨h3, h4, h5, h6⟩ := h3
  obtain ⟨i, rfl⟩ := Int.eq_ofNat_of_zero_le h3
  obtain ⟨j, rfl⟩ := Int.eq_ofNat_of_zero_le h4
  obtain ⟨x, hx⟩ : ∃ x, ss[i]? = some x := ⟨ss[i]'(by rw [HL.out]; omega), by simp⟩
  obtain ⟨y, hy⟩ : ∃ y, ss[j]? = some y := ⟨ss[j]'(by rw [HL.out]; omega), by simp⟩
  have HX := Lib.hid hx
  have HY := Lib.hid hy
  clear hx hy
  go_wp2_with fail
  refine (idents_any _ _ _ _ _ H.out (by omega)).mono ?_
  rintro e w1 ⟨rfl, hblk, hbel⟩
  have HB := Lib.hid hblk
  clear hblk
  go_wp2_with fail
  refine (zswap_any _ _ _ _ _ ss HB.out (by omega) (by omega) (by omega) x y HX.out HY.out).mono ?_
  rintro e w2 ⟨rfl, hblk2, hgr⟩
  have hbel2 := hbel.grown hgr hbel.size (by intro k hk; injection hk with hk; omega)
  have HB2 := Lib.hid hblk2
  clear HB hblk2 hgr hbel
  obtain ⟨b, off, rfl, hb, hc⟩ := (HR.out.below hbel2).pos (by simp [HL.out]; omega)
  have HC := Lib.hid hc
  clear hc
  have cx := HC.out i (.string x) (by simp [HX.out])
  have cy := HC.out j (.string y) (by simp [HY.out])
  go_wp2_with fail
  go_loop [8] (fun t => ∃ k : Nat, k ≤ len ∧ t = .int .i64 k) (fun t => len - (intOf t).toNat)
  case atStart => exact ⟨0, Nat.zero_le _, rfl⟩
  case round =>
    obtain ⟨k, hk, rfl⟩ := hrel
    by_cases hkl : k < len
    · obtain ⟨z, hz⟩ : ∃ z, ss[k]? = some z := ⟨ss[k]'(by rw [HL.out]; omega), by simp⟩
      have cz := HC.out k (.string z) (by simp [hz])
      by_cases ki : k = i
      · subst ki
        have ca := blk_str HB2.out (sw_i ss k j x y HX.out HY.out)
        have hxz : x = z := by have := HX.out; rw [hz] at this; exact (Option.some.inj this).symm
        subst hxz
        clear hz
        go_wp2
        go_round
        case rel => exact ⟨k + 1, by omega, by go_num⟩
        case measure => simp [intOf]; omega
      · have e1 : ((k : Int) == i) = false := by simp; omega
        by_cases kj : k = j
        · subst kj
          have ca := blk_str HB2.out (sw_j ss i k x y HY.out)
          have hyz : y = z := by have := HY.out; rw [hz] at this; exact (Option.some.inj this).symm
          subst hyz
          clear hz ki
          go_wp2
          go_round
          case rel => exact ⟨k + 1, by omega, by go_num⟩
          case measure => simp [intOf]; omega
        · have e2 : ((k : Int) == j) = false := by simp; omega
          have ca := blk_str HB2.out ((sw_k ss i j k x y ki kj).trans hz)
          clear hz ki kj
          go_wp2
          go_round
          case rel => exact ⟨k + 1, by omega, by go_num⟩
          case measure => simp [intOf]; omega
    · go_wp2
      go_ret
      exact ⟨rfl, hbel2⟩
end Go.Proofs.Ytdgnkkjkjdlmcaa
