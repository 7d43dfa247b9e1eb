/- FnTopLevelImportSortsGroupsAndCollectsFirst: the walk. -/
import Derived.Test.YtljfgplccnaboaaFmtKye
namespace Go.Proofs.YtljfgplccnaboaaFmt
open Go.RowKit Go.Lib
set_option linter.unusedVariables false

set_option maxRecDepth 100000 in
set_option maxHeartbeats 6400000 in
theorem law3 (a0 : Option Addr) (len0 cap0 : Nat) (z0 : List ByteArray) (a1 : Option Addr) (len1 cap1 : Nat) (z1 : List Bool) (w : World) (w0 : IsStrs w a0 len0 cap0 z0) (w1 : IsBools w a1 len1 cap1 z1) :
    Calls Tryf.prog 3 #[.slice a0 len0 cap0, .slice a1 len1 cap1] w fun e w' => e = .returned (.bool true) ∧ Below w.heap.size w w' := by
  have KG := Lib.hid (guard7 w a0 len0 cap0 z0 a1 len1 cap1 w0 (Nat.le_trans w1.2.1 w1.2.2.1))
  have W0 := Lib.hid w0
  have W1 := Lib.hid w1
  have mm0 : len0 ≤ 9223372036854775807 := Nat.le_trans w0.2.1 w0.2.2.1
  have mm1 : len1 ≤ 9223372036854775807 := Nat.le_trans w1.2.1 w1.2.2.1
  clear w0 w1
  go_enter Tryf.func3, Tryf.ntmps3
  go_wp2_with fail
  refine KG.out.mono ?_
  rintro e w' ⟨r, rfl, rfl⟩
  cases r
  · go_wp2_with fail
    go_ret
    exact ⟨rfl, Below.refl _ _⟩
  by_cases t0 : 4096 < len0
  · go_wp2_with fail
    go_ret
    exact ⟨rfl, Below.refl _ _⟩
  by_cases t1 : 4096 < len1
  · go_wp2_with fail
    go_ret
    exact ⟨rfl, Below.refl _ _⟩
  have KB := Lib.hid (bytes8 w a0 len0 cap0 z0 a1 len1 cap1 W0.out (by omega) (by omega))
  go_wp2_with fail
  refine KB.out.mono ?_
  rintro e w' ⟨nn, rfl, rfl⟩
  by_cases t2 : 1048576 < nn
  · go_wp2_with fail
    go_ret
    exact ⟨rfl, Below.refl _ _⟩
  by_cases t3 : len0 = 0
  · subst t3
    go_wp2_with fail
    go_ret
    exact ⟨rfl, Below.refl _ _⟩
  have K9 := Lib.hid (clone9 w a0 len0 cap0 z0 W0.out.1 (by omega) (fun h => by have := W0.out.2.2.2.1 h; have := W0.out.2.1; omega) W0.out.2.2.2.2.2)
  go_wp2_with fail
  refine K9.out.mono ?_
  rintro e w1 ⟨na, nc, rfl, hrn, hb1⟩
  have K10 := Lib.hid (clone10 w1 a1 len1 cap1 z1 W1.out.1 (by omega) (fun h => by have := W1.out.2.2.2.1 h; have := W1.out.2.1; omega) (W1.out.2.2.2.2.bel hb1 rfl))
  have HRN1 := Lib.hid hrn
  have HB1 := Lib.hid hb1
  clear hrn hb1 K9 KB KG
  go_wp2_with fail
  refine K10.out.mono ?_
  rintro e w2 ⟨ba, bc, rfl, hrb, hb2⟩
  have hrn2 := HRN1.out.bel hb2 rfl
  have K11 := Lib.hid (build11 w2 na len0 nc z0 ba len1 bc z1 false W0.out.1 (by omega) W1.out.1 (by omega) hrn2 hrb)
  have HRN2 := Lib.hid hrn2
  have HRB2 := Lib.hid hrb
  have HB2 := Lib.hid (HB1.out.trans (hb2.mono HB1.out.size))
  clear hrn2 hrb hb2 K10 HRN1 HB1
  go_wp2_with fail
  refine K11.out.mono ?_
  rintro e w3 ⟨v, hd, rfl, hch, hho, htl, hb3⟩
  have HB3 := Lib.hid hb3
  have hz : 0 < len0 := by omega
  have hps : z0 ≠ [] := fun h => by have := W0.out.1; rw [h] at this; simp at this; omega
  obtain ⟨lb, n0, body, ns, hL, hn0, rfl, hH⟩ := chain_head hch hho htl (by rw [W0.out.1]; omega) hps
  have K12 := Lib.hid (new12 w3)
  have K13 := Lib.hid (top13 w3 (NewT w2.heap.size w3) w2.heap.size lb n0 body ns none hH)
  have HL := Lib.hid hL
  clear hch hho htl hb3 K11 hH hL hn0
  go_wp2_with fail
  refine K12.out.mono ?_
  rintro e w' ⟨rfl, rfl⟩
  go_wp2_with fail
  refine K13.out.mono ?_
  rintro e w4 ⟨va, out, f, es', R, c, rest, rfl, hti, hc, htl, hfr, hbI, hbR, hm⟩
  have HTI := Lib.hid hti
  obtain ⟨m0, ms, rfl, hCF2, hFK2⟩ := (chain_facts HL.out).next hti
  obtain ⟨lbo, bodyo, rfl, hndo, hcho⟩ := hc
  have hA := (chain_facts HL.out).arr HTI.out
  have holen : (m0 :: ms).length = len0 := by rw [hA.olen, W0.out.1]
  have K14 := Lib.hid (walk14 w4 (Lt w2.heap.size w4) w2.heap.size len0 (m0 :: ms) 28 lbo ⟨lbo, bodyo, rfl, hndo, hcho⟩ (fun b hb => hb.2) holen (by omega))
  have HF4 := Lib.hid (show Fr w2 w4 (fun b => w2.heap.size ≤ b) from (((Fr.of_below HB3.out _).alloc (.cells #[] 55)).alloc (.cells #[.slice (some ⟨w3.heap.size, 0, none⟩) 0 0] 41)).step hfr (fun b hb hx => by have := HB3.out.size; rcases hx with h | h | h <;> omega))
  have HA := Lib.hid hA
  have HOL := Lib.hid holen
  have HCF := Lib.hid hCF2
  have HFK := Lib.hid hFK2
  have HND := Lib.hid hndo
  have HCH := Lib.hid hcho
  have HTL := Lib.hid htl
  have HBI := Lib.hid hbI
  have HBR := Lib.hid hbR
  have HM := Lib.hid hm
  clear hti hCF2 hFK2 hndo hcho hA holen htl hfr hbI hbR hm K12 K13
  unfold locV
  go_wp2_with fail
  refine K14.out.mono ?_
  rintro e w5 ⟨gk, ck, gv, cv, rfl, hrk, hrv, hb5⟩
  have b5 := (HF4.out.to_below (fun b hb => hb) (Nat.le_refl _)).trans (hb5.mono HF4.out.size)
  have hk2 : Rd w5 w5.heap.size (some ⟨gk, 0, none⟩) (((m0 :: ms).map pvN).map fun p => .string p.1) := by rw [List.map_map]; exact hrk
  have hv2 : Rd w5 w5.heap.size (some ⟨gv, 0, none⟩) (((m0 :: ms).map pvN).map fun p => .string p.2) := by rw [List.map_map]; exact hrv
  have K15 := Lib.hid (sorted15 w5 na len0 nc z0 ba len1 bc z1 (some ⟨gk, 0, none⟩) ck (some ⟨gv, 0, none⟩) cv ((m0 :: ms).map pvN) _ W0.out.1 (by omega) W1.out.1 (by omega) (HRN2.out.bel b5 rfl) (HRB2.out.bel b5 rfl) hk2 hv2 HA.out.gs)
  have HK2 := Lib.hid hk2
  have HV2 := Lib.hid hv2
  have HB5 := Lib.hid b5
  have HB45 := Lib.hid hb5
  clear hrk hrv hb5 b5 hk2 hv2 K14
  go_wp2_with fail
  refine K15.out.mono ?_
  rintro e w6 ⟨rfl, hb6⟩
  have b6 := HB5.out.trans (hb6.mono HB5.out.size)
  have K16 := Lib.hid (first16 w6 ba len1 bc len0 z1 W1.out.1 (by omega) (by omega) (HRB2.out.bel b6 rfl))
  have HB6 := Lib.hid b6
  have HB56 := Lib.hid hb6
  clear b6 hb6 K15
  go_wp2_with fail
  refine K16.out.mono ?_
  rintro e w7 ⟨kf, rfl, hkf, hb7⟩
  obtain ⟨e1, rr, hrr⟩ := first_of HTI.out HA.out (chain_facts HL.out).zero (chain_facts HL.out).chg
  rw [W0.out.1] at e1
  have hf1 : f.length = kf := first_uniq e1 hkf
  have hkn : kf ≤ len0 := hkf.1
  have b57 := HB56.out.trans (hb7.mono HB56.out.size)
  have b47 := HB45.out.trans (b57.mono HB45.out.size)
  have hI1 := HBI.out.under b47
  have y0 := hI1.cell 0
  have yl := hI1.lt
  simp at y0
  rw [hf1] at y0
  have HBR6 := Lib.hid (HBR.out.under b47)
  have RL := Lib.hid HBR6.out.lt
  have HBF := Lib.hid (HB2.out.trans ((HB6.out.trans (hb7.mono HB6.out.size)).mono HB2.out.size))
  obtain ⟨kb, koff, hkk, hkl, hkc⟩ := HK2.out.pos (by simp)
  injection hkk with hkk
  injection hkk with i1 i2
  subst i1 i2
  obtain ⟨vb', voff, hvk, hvl, hvc⟩ := HV2.out.pos (by simp)
  injection hvk with hvk
  injection hvk with i1 i2
  subst i1 i2
  have HKS := Lib.hid (show ∀ k, k < kf → ∃ x : IE, es'[k]? = some x ∧ w7.cell? ⟨gk, k, none⟩ = some (.string x.key) ∧ w7.cell? ⟨gv, k, none⟩ = some (.string x.var) by
    intro k hk
    have hle : es'.length = kf := by rw [← hf1, ← HM.out, List.length_map]
    obtain ⟨x, hx⟩ : ∃ x, es'[k]? = some x := ⟨_, List.getElem?_eq_getElem (by rw [hle]; exact hk)⟩
    have hfx : f[k]? = some (x.key, x.var) := by rw [← HM.out, List.getElem?_map, hx]; rfl
    have hpx : ((m0 :: ms).map pvN)[k]? = some (x.key, x.var) := by rw [hrr, List.getElem?_append_left (by rw [hf1]; exact hk)]; exact hfx
    refine ⟨x, hx, ?_, ?_⟩
    · have h1 := hkc k _ (by rw [List.getElem?_map, hpx]; rfl)
      rw [Nat.zero_add] at h1
      exact (b57.cell (p := ⟨gk, k, none⟩) hkl).trans h1
    · have h1 := hvc k _ (by rw [List.getElem?_map, hpx]; rfl)
      rw [Nat.zero_add] at h1
      exact (b57.cell (p := ⟨gv, k, none⟩) hvl).trans h1)
  have gl1 : gk < w7.heap.size := Nat.lt_of_lt_of_le hkl b57.size
  have gl2 : gv < w7.heap.size := Nat.lt_of_lt_of_le hvl b57.size
  clear hkc hvc e1 hkf hb7 hI1 K16 hf1 hrr b57 b47
  go_wp2_with fail
  go_loopw [13] (fun i wr => ∃ k : Nat, k ≤ kf ∧ i = .int .i64 (k : Int) ∧ Hid (Below w7.heap.size w7 wr)) (fun i _ => kf - (intOf i).toNat)
  case atStart => exact ⟨0, Nat.zero_le _, rfl, Lib.hid (Below.refl _ _)⟩
  case round =>
    obtain ⟨k, hk, rfl, hbel⟩ := hrel
    by_cases hlt : k < kf
    · obtain ⟨x, hee, hs1, hs2⟩ := HKS.out k hlt
      have hk0 : k < len0 := by omega
      have c0' := (hbel.out.cell (p := ⟨w3.heap.size + 1, 0, none⟩) yl).trans y0
      have c1' := (hbel.out.cell (p := ⟨gk, k, none⟩) gl1).trans hs1
      have c2' := (hbel.out.cell (p := ⟨gv, k, none⟩) gl2).trans hs2
      have yl' := Nat.lt_of_lt_of_le yl hbel.out.size
      have gl1' := Nat.lt_of_lt_of_le gl1 hbel.out.size
      have gl2' := Nat.lt_of_lt_of_le gl2 hbel.out.size
      have RL' := Nat.lt_of_lt_of_le RL.out hbel.out.size
      have x0 := (hbel.out.cell (p := ⟨R, k * 14 + 0, none⟩) RL.out).trans (rowI_at HBR6.out hee 0 (by omega))
      have x1 := (hbel.out.cell (p := ⟨R, k * 14 + 1, none⟩) RL.out).trans (rowI_at HBR6.out hee 1 (by omega))
      have x2 := (hbel.out.cell (p := ⟨R, k * 14 + 2, none⟩) RL.out).trans (rowI_at HBR6.out hee 2 (by omega))
      have x3 := (hbel.out.cell (p := ⟨R, k * 14 + 3, none⟩) RL.out).trans (rowI_at HBR6.out hee 3 (by omega))
      have x4 := (hbel.out.cell (p := ⟨R, k * 14 + 4, none⟩) RL.out).trans (rowI_at HBR6.out hee 4 (by omega))
      have x5 := (hbel.out.cell (p := ⟨R, k * 14 + 5, none⟩) RL.out).trans (rowI_at HBR6.out hee 5 (by omega))
      have x6 := (hbel.out.cell (p := ⟨R, k * 14 + 6, none⟩) RL.out).trans (rowI_at HBR6.out hee 6 (by omega))
      have x7 := (hbel.out.cell (p := ⟨R, k * 14 + 7, none⟩) RL.out).trans (rowI_at HBR6.out hee 7 (by omega))
      have x8 := (hbel.out.cell (p := ⟨R, k * 14 + 8, none⟩) RL.out).trans (rowI_at HBR6.out hee 8 (by omega))
      have x9 := (hbel.out.cell (p := ⟨R, k * 14 + 9, none⟩) RL.out).trans (rowI_at HBR6.out hee 9 (by omega))
      have x10 := (hbel.out.cell (p := ⟨R, k * 14 + 10, none⟩) RL.out).trans (rowI_at HBR6.out hee 10 (by omega))
      have x11 := (hbel.out.cell (p := ⟨R, k * 14 + 11, none⟩) RL.out).trans (rowI_at HBR6.out hee 11 (by omega))
      have x12 := (hbel.out.cell (p := ⟨R, k * 14 + 12, none⟩) RL.out).trans (rowI_at HBR6.out hee 12 (by omega))
      have x13 := (hbel.out.cell (p := ⟨R, k * 14 + 13, none⟩) RL.out).trans (rowI_at HBR6.out hee 13 (by omega))
      rw [Nat.add_zero] at x0
      have KX := fun W => key17e W x
      have KY := fun W => var18e W x
      obtain ⟨aa, al, ac, key, sva, svl, svc, bo, var⟩ := x
      clear hee hs1 hs2
      cases bo
      all_goals
        simp only [IE.cells, bvOf, List.getElem?_cons_zero, List.getElem?_cons_succ] at x0 x1 x2 x3 x4 x5 x6 x7 x8 x9 x10 x11 x12 x13 KX KY
        go_wp2_with fail
        go_region_law (first | (go_simp; go_at_call 17; refine (KX _).mono ?_; rintro e w8 ⟨rfl, hb8⟩; have d1 := (hb8.cell (p := ⟨gk, k, none⟩) gl1').trans c1'; have dl1 : gk < w8.heap.size := Nat.lt_of_lt_of_le gl1' hb8.size))
        all_goals
          have bw8 : Below wr.heap.size wr w8 := ⟨hb8.os, hb8.tape, hb8.output, hb8.size, hb8.block⟩
          have BW := Lib.hid (hbel.out.trans (bw8.mono hbel.out.size))
          have y0' := (bw8.cell (p := ⟨w3.heap.size + 1, 0, none⟩) yl').trans c0'
          have y2' := (bw8.cell (p := ⟨gv, k, none⟩) gl2').trans c2'
          have z0 := (bw8.cell (p := ⟨R, k * 14, none⟩) RL').trans x0
          have z1 := (bw8.cell (p := ⟨R, k * 14 + 1, none⟩) RL').trans x1
          have z2 := (bw8.cell (p := ⟨R, k * 14 + 2, none⟩) RL').trans x2
          have z3 := (bw8.cell (p := ⟨R, k * 14 + 3, none⟩) RL').trans x3
          have z4 := (bw8.cell (p := ⟨R, k * 14 + 4, none⟩) RL').trans x4
          have z5 := (bw8.cell (p := ⟨R, k * 14 + 5, none⟩) RL').trans x5
          have z6 := (bw8.cell (p := ⟨R, k * 14 + 6, none⟩) RL').trans x6
          have z7 := (bw8.cell (p := ⟨R, k * 14 + 7, none⟩) RL').trans x7
          have z8 := (bw8.cell (p := ⟨R, k * 14 + 8, none⟩) RL').trans x8
          have z9 := (bw8.cell (p := ⟨R, k * 14 + 9, none⟩) RL').trans x9
          have z10 := (bw8.cell (p := ⟨R, k * 14 + 10, none⟩) RL').trans x10
          have z11 := (bw8.cell (p := ⟨R, k * 14 + 11, none⟩) RL').trans x11
          have z12 := (bw8.cell (p := ⟨R, k * 14 + 12, none⟩) RL').trans x12
          have z13 := (bw8.cell (p := ⟨R, k * 14 + 13, none⟩) RL').trans x13
          have zl := Nat.lt_of_lt_of_le yl' bw8.size
          have zl2 := Nat.lt_of_lt_of_le gl2' bw8.size
          have zl3 := Nat.lt_of_lt_of_le RL' bw8.size
          clear x0 x1 x2 x3 x4 x5 x6 x7 x8 x9 x10 x11 x12 x13 c0' c1' c2' d1 dl1 KX yl' gl1' gl2' RL' hb8 bw8
          go_wp2_with fail
          go_region_law (first | (go_simp; go_at_call 18; refine (KY _).mono ?_; rintro e w9 ⟨rfl, hb9⟩; have d1 := (hb9.cell (p := ⟨gv, k, none⟩) zl2).trans y2'; have dl1 : gv < w9.heap.size := Nat.lt_of_lt_of_le zl2 hb9.size))
          all_goals
            have bw9 : Below w8.heap.size w8 w9 := ⟨hb9.os, hb9.tape, hb9.output, hb9.size, hb9.block⟩
            clear z0 z1 z2 z3 z4 z5 z6 z7 z8 z9 z10 z11 z12 z13 y0' y2' d1 dl1 KY zl zl2 zl3 hb9
            go_wp2_with fail
            go_roundw
            case measure => simp [intOf]; omega
            case rel => exact ⟨k + 1, by omega, by go_num, Lib.hid (BW.out.trans (bw9.mono BW.out.size))⟩
    · go_wp2_with fail
      go_ret
      exact ⟨rfl, HBF.out.trans (hbel.out.mono HBF.out.size)⟩
end Go.Proofs.YtljfgplccnaboaaFmt
