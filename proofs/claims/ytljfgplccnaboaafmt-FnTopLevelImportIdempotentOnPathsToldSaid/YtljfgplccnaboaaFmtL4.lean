/- FnTopLevelImportIdempotentOnPaths: the walk. -/
import Derived.Test.YtljfgplccnaboaaFmtLwh
namespace Go.Proofs.YtljfgplccnaboaaFmt
open Go.RowKit Go.Lib
set_option linter.unusedVariables false

set_option maxRecDepth 100000 in
set_option maxHeartbeats 6400000 in
theorem law4 (a0 : Option Addr) (len0 cap0 : Nat) (z0 : List ByteArray) (a1 : Option Addr) (len1 cap1 : Nat) (z1 : List Bool) (w : World) (w0 : IsStrs w a0 len0 cap0 z0) (w1 : IsBools w a1 len1 cap1 z1) :
    Calls Tryf.prog 4 #[.slice a0 len0 cap0, .slice a1 len1 cap1] w fun e w' => e = .returned (.bool true) ∧ Below w.heap.size w w' := by
  have KG := Lib.hid (guard19 w a0 len0 cap0 z0 a1 len1 cap1 w0 (Nat.le_trans w1.2.1 w1.2.2.1))
  have W0 := Lib.hid w0
  have W1 := Lib.hid w1
  have mm0 : len0 ≤ 9223372036854775807 := Nat.le_trans w0.2.1 w0.2.2.1
  have mm1 : len1 ≤ 9223372036854775807 := Nat.le_trans w1.2.1 w1.2.2.1
  clear w0 w1
  go_enter Tryf.func4, Tryf.ntmps4
  go_wp2_with fail
  refine KG.out.mono ?_
  rintro e w' ⟨r, rfl, rfl⟩
  cases r
  · go_wp2_with fail
    go_ret
    exact ⟨rfl, Below.refl _ _⟩
  by_cases t0 : 4096 < len0
  · go_wp2_with fail
    go_ret
    exact ⟨rfl, Below.refl _ _⟩
  by_cases t1 : 4096 < len1
  · go_wp2_with fail
    go_ret
    exact ⟨rfl, Below.refl _ _⟩
  have KB := Lib.hid (bytes8 w a0 len0 cap0 z0 a1 len1 cap1 W0.out (by omega) (by omega))
  go_wp2_with fail
  refine KB.out.mono ?_
  rintro e w' ⟨nn, rfl, rfl⟩
  by_cases t2 : 1048576 < nn
  · go_wp2_with fail
    go_ret
    exact ⟨rfl, Below.refl _ _⟩
  by_cases t3 : len0 = 0
  · subst t3
    go_wp2_with fail
    go_ret
    exact ⟨rfl, Below.refl _ _⟩
  have K9 := Lib.hid (clone9 w a0 len0 cap0 z0 W0.out.1 (by omega) (fun h => by have := W0.out.2.2.2.1 h; have := W0.out.2.1; omega) W0.out.2.2.2.2.2)
  go_wp2_with fail
  refine K9.out.mono ?_
  rintro e w1 ⟨na, nc, rfl, hrn, hb1⟩
  have K10 := Lib.hid (clone10 w1 a1 len1 cap1 z1 W1.out.1 (by omega) (fun h => by have := W1.out.2.2.2.1 h; have := W1.out.2.1; omega) (W1.out.2.2.2.2.bel hb1 rfl))
  have HRN1 := Lib.hid hrn
  have HB1 := Lib.hid hb1
  clear hrn hb1 K9 KB KG
  go_wp2_with fail
  refine K10.out.mono ?_
  rintro e w2 ⟨ba, bc, rfl, hrb, hb2⟩
  have hrn2 := HRN1.out.bel hb2 rfl
  have K11 := Lib.hid (build11 w2 na len0 nc z0 ba len1 bc z1 false W0.out.1 (by omega) W1.out.1 (by omega) hrn2 hrb)
  have HRN2 := Lib.hid hrn2
  have HRB2 := Lib.hid hrb
  have HB2 := Lib.hid (HB1.out.trans (hb2.mono HB1.out.size))
  clear hrn2 hrb hb2 K10 HRN1 HB1
  go_wp2_with fail
  refine K11.out.mono ?_
  rintro e w3 ⟨v, hd, rfl, hch, hho, htl, hb3⟩
  have HB3 := Lib.hid hb3
  have hz : 0 < len0 := by omega
  have hps : z0 ≠ [] := fun h => by have := W0.out.1; rw [h] at this; simp at this; omega
  obtain ⟨lb, n0, body, ns, hL, hn0, rfl, hH⟩ := chain_head hch hho htl (by rw [W0.out.1]; omega) hps
  have K12 := Lib.hid (new12 w3)
  have K13 := Lib.hid (top13 w3 (NewT w2.heap.size w3) w2.heap.size lb n0 body ns none hH)
  have HL := Lib.hid hL
  clear hch hho htl hb3 K11 hH hL hn0
  go_wp2_with fail
  refine K12.out.mono ?_
  rintro e w' ⟨rfl, rfl⟩
  go_wp2_with fail
  refine K13.out.mono ?_
  rintro e w4 ⟨va, out, f, es', R, c, rest, rfl, hti, hc, htl, hfr, hbI, hbR, hm⟩
  have HTI := Lib.hid hti
  obtain ⟨m0, ms, rfl, hCF2, hFK2⟩ := (chain_facts HL.out).next hti
  obtain ⟨lbo, bodyo, rfl, hndo, hcho⟩ := hc
  have hA := (chain_facts HL.out).arr HTI.out
  have holen : (m0 :: ms).length = len0 := by rw [hA.olen, W0.out.1]
  have K14 := Lib.hid (walk14 w4 (Lt w2.heap.size w4) w2.heap.size len0 (m0 :: ms) 28 lbo ⟨lbo, bodyo, rfl, hndo, hcho⟩ (fun b hb => hb.2) holen (by omega))
  have HF4 := Lib.hid (show Fr w2 w4 (fun b => w2.heap.size ≤ b) from (((Fr.of_below HB3.out _).alloc (.cells #[] 55)).alloc (.cells #[.slice (some ⟨w3.heap.size, 0, none⟩) 0 0] 41)).step hfr (fun b hb hx => by have := HB3.out.size; rcases hx with h | h | h <;> omega))
  have HA := Lib.hid hA
  have HOL := Lib.hid holen
  have HCF := Lib.hid hCF2
  have HFK := Lib.hid hFK2
  have HND := Lib.hid hndo
  have HCH := Lib.hid hcho
  have HTL := Lib.hid htl
  have HBI := Lib.hid hbI
  have HBR := Lib.hid hbR
  have HM := Lib.hid hm
  clear hti hCF2 hFK2 hndo hcho hA holen htl hfr hbI hbR hm K12 K13
  unfold locV
  go_wp2_with fail
  refine K14.out.mono ?_
  rintro e w5 ⟨gk, ck, gv, cv, rfl, hrk, hrv, hb5⟩
  have b5 := (HF4.out.to_below (fun b hb => hb) (Nat.le_refl _)).trans (hb5.mono HF4.out.size)
  have hk2 : Rd w5 w5.heap.size (some ⟨gk, 0, none⟩) (((m0 :: ms).map pvN).map fun p => .string p.1) := by rw [List.map_map]; exact hrk
  have hv2 : Rd w5 w5.heap.size (some ⟨gv, 0, none⟩) (((m0 :: ms).map pvN).map fun p => .string p.2) := by rw [List.map_map]; exact hrv
  have K15 := Lib.hid (sorted15 w5 na len0 nc z0 ba len1 bc z1 (some ⟨gk, 0, none⟩) ck (some ⟨gv, 0, none⟩) cv ((m0 :: ms).map pvN) _ W0.out.1 (by omega) W1.out.1 (by omega) (HRN2.out.bel b5 rfl) (HRB2.out.bel b5 rfl) hk2 hv2 HA.out.gs)
  have HK2 := Lib.hid hk2
  have HV2 := Lib.hid hv2
  have HB5 := Lib.hid b5
  have HB45 := Lib.hid hb5
  clear hrk hrv hb5 b5 hk2 hv2 K14
  go_wp2_with fail
  refine K15.out.mono ?_
  rintro e w6 ⟨rfl, hb6⟩
  have hb46 := HB45.out.trans (hb6.mono HB45.out.size)
  have F46 := Fr.of_below hb46 (fun _ => False)
  have hnd6 := HND.out.fr F46 (fun _ _ h => h)
  have HND6 := Lib.hid hnd6
  obtain ⟨gb, ib, sb, fv, t1, t2, t3', t4, u1, u2, _⟩ := hnd6
  have K20 := Lib.hid (good20l w6 lbo gb ib m0.var bodyo fv u1 u2)
  unfold locV at K20
  have HB6 := Lib.hid hb6
  have HF46 := Lib.hid F46
  clear u1 u2 hb6 hb46 F46 K15
  go_wp2_with fail
  refine K20.out.mono ?_
  rintro e w7 ⟨rfl, hb7⟩
  have F47 := HF46.out.trans (Fr.of_below hb7 (fun _ => False))
  have hlen2 : ms.length + 1 = len0 := HOL.out
  have hCH : ChH w7 (Lt w2.heap.size w4) w2.heap.size lbo m0 bodyo ms (some 0) := ⟨HND.out.fr F47 (fun _ _ h => h), HCH.out.fr F47 (fun _ _ h => h), HTL.out.fr F47 (fun h => h) (fun _ _ h => h), .inr rfl, HFK.out, fun b hb => ⟨Nat.lt_of_lt_of_le hb.2 F47.size, hb.1⟩, by omega, fun p hp => by
    have h1 := HCF.out.perm.mem_iff.1 (show p ∈ (m0 :: ms).map pvN from hp)
    obtain ⟨n, hn, rfl⟩ := List.mem_map.1 h1
    obtain ⟨i, h1, _, h3⟩ := chain_mem hn
    show n.var.size ≤ maxLen
    rw [h3]
    exact vr_size false i (by have := W0.out.1; omega)⟩
  have K12 := Lib.hid (new12 w7)
  have K13 := Lib.hid (top13 w7 (Lt w2.heap.size w4) w2.heap.size lbo m0 bodyo ms (some 0) hCH)
  have HF47 := Lib.hid F47
  have HB7 := Lib.hid hb7
  clear hCH F47 hb7 K20
  go_wp2_with fail
  refine K12.out.mono ?_
  rintro e w' ⟨rfl, rfl⟩
  go_wp2_with fail
  refine K13.out.mono ?_
  rintro e w9 ⟨va, out2, f2, es2, R2, c2, rest2, rfl, hti2, hc2, htl2, hfr2, hbI2, _, _⟩
  obtain ⟨T2, vb2, rfl⟩ := chain_iface hc2
  have hA2 := HCF.out.arr hti2
  have holen2 : out2.length = len0 := by rw [hA2.olen, W0.out.1]
  have K14 := Lib.hid (walk14 w9 (Lt w2.heap.size w9) w2.heap.size len0 out2 T2 vb2 hc2 (fun b hb => hb.2) holen2 (by omega))
  have s37 : w3.heap.size + 2 ≤ w4.heap.size := by
    have := HBI.out.lt
    have := HF4.out.size
    omega
  have s47 := HF47.out.size
  have F79 : Fr w7 w9 (fun b => b = w2.heap.size) := (((Fr.refl w7 _).alloc (.cells #[] 55)).alloc (.cells #[.slice (some ⟨w7.heap.size, 0, none⟩) 0 0] 41)).step hfr2 (fun b hb hx => by rcases hx with h | h | h <;> omega)
  obtain ⟨fvt, hbt, hft⟩ := HTL.out
  have hbI9 := F79.blk (HF47.out.blk HBI.out (fun h => h)) (fun e => blk_ne HBI.out hbt (by decide) e)
  have F59 : Fr w5 w9 (fun b => b = w2.heap.size) := ((Fr.of_below HB6.out _).trans (Fr.of_below HB7.out _)).trans F79
  have s23 := HB3.out.size
  have HF29 := Lib.hid (show Fr w2 w9 (fun b => w2.heap.size ≤ b) from (HF4.out.trans (HF47.out.sub (fun _ h => h.elim))).step F79 (fun b hb hx => by omega))
  have HTI2 := Lib.hid hti2
  have HA2 := Lib.hid hA2
  have HBI9 := Lib.hid hbI9
  have HF59 := Lib.hid F59
  have HBI2 := Lib.hid hbI2
  have HTB5 := Lib.hid (show ∃ a b c, w5.cell? ⟨w2.heap.size, 0, none⟩ = some (.slice a b c) by
    obtain ⟨a, b, c, rfl⟩ := hft.is_slice
    have := (hbt.under HB45.out).cell 0
    exact ⟨a, b, c, by simpa [nb] using this⟩)
  clear hti2 hc2 htl2 hfr2 hbI2 hA2 hbI9 F59 F79 K12 K13 hbt hft
  go_wp2_with fail
  refine K14.out.mono ?_
  rintro e w10 ⟨gk2, ck2, gv2, cv2, rfl, hrk2, hrv2, hb10⟩
  have b10 := (HF29.out.to_below (fun b hb => hb) (Nat.le_refl _)).trans (hb10.mono HF29.out.size)
  have hk2 : Rd w10 w10.heap.size (some ⟨gk2, 0, none⟩) ((out2.map pvN).map fun p => .string p.1) := by rw [List.map_map]; exact hrk2
  have hv2 : Rd w10 w10.heap.size (some ⟨gv2, 0, none⟩) ((out2.map pvN).map fun p => .string p.2) := by rw [List.map_map]; exact hrv2
  have K15 := Lib.hid (sorted15 w10 na len0 nc z0 ba len1 bc z1 (some ⟨gk2, 0, none⟩) ck2 (some ⟨gv2, 0, none⟩) cv2 (out2.map pvN) _ W0.out.1 (by omega) W1.out.1 (by omega) (HRN2.out.bel b10 rfl) (HRB2.out.bel b10 rfl) hk2 hv2 HA2.out.gs)
  have HK22 := Lib.hid hk2
  have HB10 := Lib.hid b10
  have HB910 := Lib.hid hb10
  clear hrk2 hrv2 hb10 b10 hk2 hv2 K14
  go_wp2_with fail
  refine K15.out.mono ?_
  rintro e w11 ⟨rfl, hb11⟩
  have b11 := HB10.out.trans (hb11.mono HB10.out.size)
  have K16 := Lib.hid (first16 w11 ba len1 bc len0 z1 W1.out.1 (by omega) (by omega) (HRB2.out.bel b11 rfl))
  have HB11 := Lib.hid b11
  have HB1011 := Lib.hid hb11
  clear b11 hb11 K15
  go_wp2_with fail
  refine K16.out.mono ?_
  rintro e w12 ⟨kf, rfl, hkf, hb12⟩
  have e1 := (first_of HTI.out HA.out (chain_facts HL.out).zero (chain_facts HL.out).chg).1
  have e2 := (first_of HTI2.out HA2.out HCF.out.zero HCF.out.chg).1
  rw [W0.out.1] at e1 e2
  have hf1 : f.length = kf := first_uniq e1 hkf
  have hf2 : f2.length = kf := first_uniq e2 hkf
  have b912 := HB910.out.trans ((HB1011.out.trans (hb12.mono HB1011.out.size)).mono HB910.out.size)
  have hI1 := HBI9.out.under b912
  have hI2 := HBI2.out.under b912
  have x0 := hI1.cell 0
  have x1 := hI2.cell 0
  have xl := hI1.lt
  have xl2 := hI2.lt
  simp at x0 x1
  rw [hf1] at x0
  rw [hf2] at x1
  have hpaths := arr_paths HA.out HA2.out
  have HBF := Lib.hid (HB2.out.trans ((HB11.out.trans (hb12.mono HB11.out.size)).mono HB2.out.size))
  have hgl : len0 = ((m0 :: ms).map pvN).length := by rw [List.length_map, HOL.out]
  obtain ⟨kb, koff, hkk, hkl, hkc⟩ := HK2.out.pos (by simp)
  injection hkk with hkk
  injection hkk with i1 i2
  subst i1 i2
  obtain ⟨kb2, koff2, hkk2, hkl2, hkc2⟩ := HK22.out.pos (by rw [List.length_map, HA2.out.len, W0.out.1]; exact hz)
  injection hkk2 with hkk2
  injection hkk2 with i1 i2
  subst i1 i2
  have hgt : gk ≠ w2.heap.size := by
    intro e
    obtain ⟨a, b, cc, h1⟩ := HTB5.out
    have h2 := hkc 0 _ (by rw [List.map_cons, List.map_cons]; rfl)
    rw [e] at h2
    rw [Nat.add_zero, h1] at h2
    cases h2
  have HKS := Lib.hid (show ∀ k, k < len0 → ∃ s, w12.cell? ⟨gk, k, none⟩ = some (.string s) ∧ w12.cell? ⟨gk2, k, none⟩ = some (.string s) by
    intro k hk
    obtain ⟨p, hp⟩ : ∃ p, ((m0 :: ms).map pvN)[k]? = some p := ⟨_, List.getElem?_eq_getElem (by rw [← hgl]; exact hk)⟩
    obtain ⟨q, hq⟩ : ∃ q, (out2.map pvN)[k]? = some q := ⟨_, List.getElem?_eq_getElem (by rw [HA2.out.len, W0.out.1]; exact hk)⟩
    have hpq : p.1 = q.1 := by
      have this : (((m0 :: ms).map pvN).map Prod.fst)[k]? = ((out2.map pvN).map Prod.fst)[k]? := by rw [hpaths]
      rw [List.getElem?_map, hp, List.getElem?_map, hq] at this
      exact Option.some.inj this
    refine ⟨p.1, ?_, ?_⟩
    · have h1 := hkc k _ (by rw [List.getElem?_map, hp]; rfl)
      rw [Nat.zero_add] at h1
      have h2 := (World.cell?_of_block (a := ⟨gk, k, none⟩) (HF59.out.block gk hkl hgt)).trans h1
      exact (b912.cell (p := ⟨gk, k, none⟩) (Nat.lt_of_lt_of_le hkl HF59.out.size)).trans h2
    · have h1 := hkc2 k _ (by rw [List.getElem?_map, hq]; rfl)
      rw [Nat.zero_add] at h1
      rw [hpq]
      exact ((HB1011.out.trans (hb12.mono HB1011.out.size)).cell (p := ⟨gk2, k, none⟩) hkl2).trans h1)
  have gl1 : gk < w12.heap.size := Nat.lt_of_lt_of_le hkl (Nat.le_trans HF59.out.size b912.size)
  have gl2 : gk2 < w12.heap.size := Nat.lt_of_lt_of_le hkl2 (HB1011.out.trans (hb12.mono HB1011.out.size)).size
  clear hkc hkc2 hpaths e1 e2 hkf hb12 hI1 hI2 K16 hgl hlen2 hf1 hf2 holen2
  go_wp2_with fail
  go_loopw [20] (fun i wr => ∃ k : Nat, k ≤ len0 ∧ i = .int .i64 (k : Int) ∧ Hid (Below w12.heap.size w12 wr)) (fun i _ => len0 - (intOf i).toNat)
  case atStart => exact ⟨0, Nat.zero_le _, rfl, Lib.hid (Below.refl _ _)⟩
  case round =>
    obtain ⟨k, hk, rfl, hbel⟩ := hrel
    by_cases hlt : k < len0
    · obtain ⟨s, hs1, hs2⟩ := HKS.out k hlt
      have c1' := (hbel.out.cell (p := ⟨gk, k, none⟩) gl1).trans hs1
      have c2' := (hbel.out.cell (p := ⟨gk2, k, none⟩) gl2).trans hs2
      have gl1' := Nat.lt_of_lt_of_le gl1 hbel.out.size
      have gl2' := Nat.lt_of_lt_of_le gl2 hbel.out.size
      clear hs1 hs2
      go_wp2_with fail
      go_quiet (fail)
      go_wp2_with fail
      go_roundw
      case measure => simp [intOf]; omega
      case rel => exact ⟨k + 1, by omega, by go_num, Lib.hid ⟨hbel.out.os, hbel.out.tape, hbel.out.output, hbel.out.size, hbel.out.block⟩⟩
    · go_wp2_with fail
      go_ret
      exact ⟨rfl, HBF.out.trans (hbel.out.mono HBF.out.size)⟩
end Go.Proofs.YtljfgplccnaboaaFmt
