/- The walk of FnLessIsStrictTotalOrder. -/
import Derived.Test.YtdgnkkjkjdlmcaaLss
namespace Go.Proofs.Ytdgnkkjkjdlmcaa
open Go.RowKit
set_option linter.unusedVariables false

set_option maxHeartbeats 3200000 in
theorem lessTotLaw (w : World) (a : Option Addr) (len cap : Nat) (ss : List ByteArray) (i j l : Int) (h : IsStrs w a len cap ss) :
    Calls Try.prog 9 #[.slice a len cap, .int .i64 i, .int .i64 j, .int .i64 l] w fun e w' => e = .returned (.bool true) ∧ Below w.heap.size w w' := by
  have h' := h
  obtain ⟨hl, hlc, hcm, hn, hs, hr⟩ := h'
  unfold maxLen at hcm
  have HL := Lib.hid hl
  have HS := Lib.hid hs
  have H := Lib.hid h
  have HR := Lib.hid hr
  clear hl hn hs hr h
  go_enter Try.func9, Try.ntmps9
  go_wp2_with fail
  refine (guard33 _ _ _ _ _ _ _ _ H.out).mono ?_
  rintro e w1 ⟨b, rfl, rfl⟩
  cases b
  · go_wp2_with fail
    go_ret
    exact ⟨rfl, Below.refl _ _⟩
  by_cases h1 : 65536 < len
  · go_wp2_with fail
    go_ret
    exact ⟨rfl, Below.refl _ _⟩
  go_wp2_with fail
  refine (bytes_any _ _ _ _ _ H.out).mono ?_
  rintro e w1 ⟨n, rfl, rfl⟩
  by_cases h2 : 1048576 < n
  · go_wp2_with fail
    go_ret
    exact ⟨rfl, Below.refl _ _⟩
  by_cases h3 : 0 ≤ i ∧ 0 ≤ j ∧ 0 ≤ l ∧ i < len ∧ j < len ∧ l < len
  rotate_left
  · go_wp2_with fail
    all_goals (go_ret; exact ⟨rfl, Below.refl _ _⟩)
  obtain ⟨h3, h4, h7, h5, h6, h8⟩ := h3
  obtain ⟨i, rfl⟩ := Int.eq_ofNat_of_zero_le h3
  obtain ⟨j, rfl⟩ := Int.eq_ofNat_of_zero_le h4
  obtain ⟨l, rfl⟩ := Int.eq_ofNat_of_zero_le h7
  obtain ⟨x, hx⟩ : ∃ x, ss[i]? = some x := ⟨ss[i]'(by rw [HL.out]; omega), by simp⟩
  obtain ⟨y, hy⟩ : ∃ y, ss[j]? = some y := ⟨ss[j]'(by rw [HL.out]; omega), by simp⟩
  obtain ⟨z, hz⟩ : ∃ z, ss[l]? = some z := ⟨ss[l]'(by rw [HL.out]; omega), by simp⟩
  have HX := Lib.hid hx
  have HY := Lib.hid hy
  have HZ := Lib.hid hz
  clear hx hy hz
  go_wp2_with fail
  refine (idents_any _ _ _ _ _ H.out (by omega)).mono ?_
  rintro e w1 ⟨rfl, hblk, hbel⟩
  have HB := Lib.hid hblk
  clear hblk
  obtain ⟨b, off, rfl, hb, hc⟩ := (HR.out.below hbel).pos (by simp [HL.out]; omega)
  have cx := hc i (.string x) (by simp [HX.out])
  have cy := hc j (.string y) (by simp [HY.out])
  clear hc
  have q0 := ltS_irrefl x
  go_wp2_with fail
  refine (zless_any _ _ _ ss i i x x HB.out (by omega) (by omega) (by omega) HX.out HX.out).mono ?_
  rintro e w2 ⟨rfl, m, rfl⟩
  simp only [q0]
  go_wp2_with fail
  refine (zless_any _ _ _ ss i j x y (HB.out.drewN _) (by omega) (by omega) (by omega) HX.out HY.out).mono ?_
  rintro e w2 ⟨rfl, m2, rfl⟩
  cases hxy : ltS x y
  · go_wp2_with fail
    refine (zless_any _ _ _ ss j i y x (by first | exact HB.out | exact HB.out.drewN _ | exact (HB.out.drewN _).drewN _) (by omega) (by omega) (by omega) HY.out HX.out).mono ?_
    rintro e w2 ⟨rfl, m3, rfl⟩
    cases hyx : ltS y x
    · have hxy' := ltS_tri hxy hyx
      subst hxy'
      clear hxy hyx
      go_wp2_with fail
      go_quiet (fail)
      go_wp2_with fail
      go_ret
      exact ⟨rfl, by repeat' (first | exact hbel | refine below_drewN ?_ _)⟩
    · have hne : (x.toList == y.toList) = false := by
        rw [beq_eq_false_iff_ne]
        intro e
        rw [ByteArray.toList_eq, ByteArray.toList_eq] at e
        have e' := Go.WideShapes.bytes_inj e
        subst e'
        rw [q0] at hyx
        cases hyx
      go_wp2_with fail
      go_quiet (fail)
      go_wp2_with fail
      go_ret
      exact ⟨rfl, by repeat' (first | exact hbel | refine below_drewN ?_ _)⟩
  · have hyx := ltS_asymm hxy
    have hne : (x.toList == y.toList) = false := by
      rw [beq_eq_false_iff_ne]
      intro e
      rw [ByteArray.toList_eq, ByteArray.toList_eq] at e
      have e' := Go.WideShapes.bytes_inj e
      subst e'
      rw [q0] at hxy
      cases hxy
    go_wp2_with fail
    refine (zless_any _ _ _ ss j i y x (by first | exact HB.out | exact HB.out.drewN _ | exact (HB.out.drewN _).drewN _) (by omega) (by omega) (by omega) HY.out HX.out).mono ?_
    rintro e w2 ⟨rfl, m3, rfl⟩
    simp only [hyx]
    go_wp2_with fail
    go_quiet (fail)
    go_wp2_with fail
    refine (zless_any _ _ _ ss j l y z (by repeat' (first | exact HB.out | refine Blk.drewN ?_ _)) (by omega) (by omega) (by omega) HY.out HZ.out).mono ?_
    rintro e w2 ⟨rfl, m4, rfl⟩
    cases hyz : ltS y z
    · go_wp2_with fail
      go_ret
      exact ⟨rfl, by repeat' (first | exact hbel | refine below_drewN ?_ _)⟩
    · have hxz := ltS_trans hxy hyz
      go_wp2_with fail
      refine (zless_any _ _ _ ss i l x z (by repeat' (first | exact HB.out | refine Blk.drewN ?_ _)) (by omega) (by omega) (by omega) HX.out HZ.out).mono ?_
      rintro e w2 ⟨rfl, m5, rfl⟩
      simp only [hxz]
      go_wp2_with fail
      go_ret
      exact ⟨rfl, by repeat' (first | exact hbel | refine below_drewN ?_ _)⟩
end Go.Proofs.Ytdgnkkjkjdlmcaa
