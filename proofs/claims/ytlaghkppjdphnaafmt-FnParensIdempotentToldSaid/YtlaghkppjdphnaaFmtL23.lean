/- The walk of the law that a second pass over parens changes nothing. -/
import Derived.Test.YtlaghkppjdphnaaFmtL18
import Derived.Test.YtlaghkppjdphnaaFmtCpy
namespace Go.Proofs.YtlaghkppjdphnaaFmt
open Go.RowKit
set_option linter.unusedVariables false

theorem hasL_pair (es1 es2 : List LE) : hasL (fix (hasL es1 || hasL es2) es1) = hasL (fix (hasL es1 || hasL es2) es2) := by
  cases h : hasL es1 || hasL es2 with
  | true => simp [fix, hasL_ens]
  | false =>
    simp only [Bool.or_eq_false_iff] at h
    simp [fix, h.1, h.2]
theorem hasL_pair2 (es1 es2 : List LE) (h : (hasL es1 || hasL es2) = false) : (hasL (fix (hasL es1 || hasL es2) es1) || hasL (fix (hasL es1 || hasL es2) es2)) = false := by
  rw [h]
  simpa [fix] using h

set_option maxRecDepth 100000 in
set_option maxHeartbeats 6400000 in
theorem law23 (a0 : Option Addr) (n0 c0 : Nat) (zs0 : List QE) (a1 : Option Addr) (n1 c1 : Nat) (zs1 : List QE) (w : World) (h0 : IsQs w a0 n0 c0 zs0) (h1 : IsQs w a1 n1 c1 zs1) :
    Calls Tryf.prog 4 #[.slice a0 n0 c0, .slice a1 n1 c1] w fun e w' => e = .returned (.bool true) ∧ Below w.heap.size w w' := by
  have hn0 : n0 ≤ 9223372036854775807 := by have := h0.2.1; have := h0.2.2.1; unfold maxLen at this; omega
  have hn1 : n1 ≤ 9223372036854775807 := by have := h1.2.1; have := h1.2.2.1; unfold maxLen at this; omega
  have G := Lib.hid (guard16 w a0 n0 c0 a1 n1 c1 hn0 hn1)
  have C0 := Lib.hid (cost10 w a0 n0 c0 zs0 h0)
  have C1 := Lib.hid (cost10 w a1 n1 c1 zs1 h1)
  have H0 := Lib.hid h0
  have H1 := Lib.hid h1
  clear h0 h1
  go_enter Tryf.func4, Tryf.ntmps4
  go_wp2_with fail
  refine G.out.mono ?_
  rintro e w1 ⟨r, rfl, rfl⟩
  cases r
  · go_wp2_with fail
    go_ret
    exact ⟨rfl, Below.refl _ _⟩
  clear G
  go_wp2_with fail
  refine C0.out.mono ?_
  rintro e w1 ⟨m0, rfl, rfl, hm0, hq0⟩
  go_wp2_with fail
  refine C1.out.mono ?_
  rintro e w1 ⟨m1, rfl, rfl, hm1, hq1⟩
  clear C0 C1
  by_cases hm : 16384 < m0 + m1
  · go_wp2_with fail
    go_ret
    exact ⟨rfl, Below.refl _ _⟩
  have hd0 : decide ((16384 : Int) < (m0 : Int) + (m1 : Int)) = false := by simp; omega
  have s0 : n0 ≤ 16384 := hq0 (by omega)
  have s1 : n1 ≤ 16384 := hq1 (by omega)
  have A0 := Lib.hid (all11 w a0 n0 c0 zs0 H0.out)
  clear hq0 hq1
  go_wp2_with fail
  refine A0.out.mono ?_
  rintro e w1 ⟨r, rfl, hb1, ho0⟩
  cases r
  · have B := Lib.hid hb1
    clear hb1
    go_wp2_with fail
    go_ret
    exact ⟨rfl, B.out⟩
  have O0 := Lib.hid (ho0 rfl)
  have B1 := Lib.hid hb1
  have A1 := Lib.hid (all11 w1 a1 n1 c1 zs1 (H1.out.below hb1))
  clear hb1 ho0 A0
  go_wp2_with fail
  refine A1.out.mono ?_
  rintro e w2 ⟨r, rfl, hb2, ho1⟩
  have B2 := Lib.hid (B1.out.trans (hb2.mono B1.out.size))
  have O1' := Lib.hid ho1
  clear hb2 ho1 A1 B1
  cases r
  · go_wp2_with fail
    go_ret
    exact ⟨rfl, B2.out⟩
  have O1 := Lib.hid (O1'.out rfl)
  have M0 := Lib.hid (build12 w2 a0 n0 c0 zs0 (H0.out.below B2.out) s0 O0.out)
  clear O1'
  go_wp2_with fail
  refine M0.out.mono ?_
  rintro e w3 ⟨v0, rfl, hv0, hb3⟩
  obtain ⟨x0, rfl, _, _, _⟩ := hv0.open
  have hq0 := inQ_getD H0.out
  have hq1 := inQ_getD H1.out
  simp only [hq0] at hv0 ⊢
  have B3 := Lib.hid (B2.out.trans (hb3.mono B2.out.size))
  have V0 := Lib.hid hv0
  have B3a := Lib.hid (B3.out.alloc B3.out.size (.cells (nullC (.slice x0 (zs0.map QE.le).length (zs0.map QE.le).length)) 42))
  have sz3 : (w3.alloc (.cells (nullC (.slice x0 (zs0.map QE.le).length (zs0.map QE.le).length)) 42)).heap.size = w3.heap.size + 1 := by simp
  have M1 := Lib.hid (build12 (w3.alloc (.cells (nullC (.slice x0 (zs0.map QE.le).length (zs0.map QE.le).length)) 42)) a1 n1 c1 zs1 (H1.out.below B3a.out) s1 O1.out)
  have s23 := hb3.size
  clear hv0 hb3 M0
  generalize hL0 : (zs0.map QE.le).length = l0 at *
  unfold nullC at M1 B3a sz3
  go_wp2_with fail
  refine M1.out.mono ?_
  rintro e w4 ⟨v1, rfl, hv1, hb4⟩
  obtain ⟨x1, rfl, _, _, _⟩ := hv1.open
  simp only [hq1] at hv1 ⊢
  generalize hL1 : (zs1.map QE.le).length = l1 at *
  have hb4s := hb4.size
  rw [sz3] at hb4s
  have B4 := Lib.hid (B3a.out.trans (hb4.mono B3a.out.size))
  have PS := Lib.hid (show ParS ((w4.alloc (.cells (parC w3.heap.size (.slice x1 l1 l1)) 47)).alloc (.cells #[] 52)) (w4.heap.size + 1) w4.heap.size w3.heap.size (.slice x0 l0 l0) (.slice x1 l1 l1) (zs0.map QE.le) (zs1.map QE.le) from by
    have hc : Blk ((w4.alloc (.cells (parC w3.heap.size (.slice x1 l1 l1)) 47)).alloc (.cells #[] 52)) (w4.heap.size + 1) 52 #[] := by have := Blk.new (w4.alloc (.cells (parC w3.heap.size (.slice x1 l1 l1)) 47)) 52 #[]; simpa using this
    have hl : Blk w4 w3.heap.size 42 (nullC (.slice x0 l0 l0)) := (Blk.new w3 42 (nullC (.slice x0 l0 l0))).under hb4
    have fr1 : Fr w3 ((w4.alloc (.cells (parC w3.heap.size (.slice x1 l1 l1)) 47)).alloc (.cells #[] 52)) (fun _ => False) := Fr.of_below ((((Below.refl w3.heap.size w3).alloc (Nat.le_refl _) _).trans (hb4.mono (by rw [sz3]; omega))).alloc (by omega) _ |>.alloc (by simp; omega) _) _
    have fr2 : Fr w4 ((w4.alloc (.cells (parC w3.heap.size (.slice x1 l1 l1)) 47)).alloc (.cells #[] 52)) (fun _ => False) := ((Fr.refl w4 _).alloc _).alloc _
    refine ⟨hc, (Blk.new w4 47 (parC w3.heap.size (.slice x1 l1 l1))).alloc _, (hl.alloc _).alloc _, ⟨inQ a0 zs0, ?_, hq0, fun _ => ?_⟩, ⟨inQ a1 zs1, ?_, hq1, fun _ => ?_⟩, by omega, by omega, by omega⟩
    · refine (FodC.fodV V0.out |>.keep (fr1.agree fun b hb => ⟨hb.2, fun h => h⟩)).sub fun b hb => ⟨by have := hb.2; simp; omega, by have := hb.2; omega⟩
    · refine (V0.out.keep (fr1.agree fun b hb => ⟨hb.2, fun h => h⟩)).sub fun b hb => ⟨by have := hb.2; simp; omega, by have := hb.2; omega⟩
    · refine (FodC.fodV hv1 |>.keep (fr2.agree fun b hb => ⟨hb.2, fun h => h⟩)).sub fun b hb => ⟨by have := hb.2; simp; omega, by have h7 := hb.1; rw [sz3] at h7; have := hb.2; omega⟩
    · refine (hv1.keep (fr2.agree fun b hb => ⟨hb.2, fun h => h⟩)).sub fun b hb => ⟨by have := hb.2; simp; omega, by have h7 := hb.1; rw [sz3] at h7; have := hb.2; omega⟩)
  have B5 := Lib.hid ((B4.out.alloc B4.out.size (.cells (parC w3.heap.size (.slice x1 l1 l1)) 47)).alloc (by have := B4.out.size; simp; omega) (.cells #[] 52))
  have OL0 : Hid (∀ e ∈ zs0.map QE.le, OkL e) := Lib.hid (fun e he => by obtain ⟨z, hz, rfl⟩ := List.mem_map.1 he; exact (O0.out z hz).le)
  have OL1 : Hid (∀ e ∈ zs1.map QE.le, OkL e) := Lib.hid (fun e he => by obtain ⟨z, hz, rfl⟩ := List.mem_map.1 he; exact (O1.out z hz).le)
  have KP := Lib.hid (par13 _ _ _ _ _ _ _ _ PS.out OL0.out OL1.out .nilIface)
  have szw3 := B3.out.size
  have szw4 := B4.out.size
  have hp34 : w3.heap.size < w4.heap.size := by omega
  clear hv1 hb4 M1 V0 B4 B3a B3 B2 hq0 hq1
  unfold parC at KP PS B5
  go_wp2_with fail
  refine KP.out.mono ?_
  rintro e w5 ⟨rfl, ⟨v0', v1', hps⟩, hfr⟩
  have PS5 := Lib.hid hps
  have B6 := Lib.hid (hfr.below B5.out B5.out.size (by rintro b (h | h) <;> omega))
  clear hps hfr KP PS B5
  have HPR := Lib.hid (hasL_pair (zs0.map QE.le) (zs1.map QE.le))
  have HP2 := Lib.hid (hasL_pair2 (zs0.map QE.le) (zs1.map QE.le))
  have hlf0 := fix_len (hasL (zs0.map QE.le) || hasL (zs1.map QE.le)) (zs0.map QE.le)
  have hlf1 := fix_len (hasL (zs0.map QE.le) || hasL (zs1.map QE.le)) (zs1.map QE.le)
  have OK0 := Lib.hid (fix_ok (x := hasL (zs0.map QE.le) || hasL (zs1.map QE.le)) OL0.out)
  have OK1 := Lib.hid (fix_ok (x := hasL (zs0.map QE.le) || hasL (zs1.map QE.le)) OL1.out)
  have hll0 : l0 ≤ 16384 := by rw [← hL0, List.length_map, H0.out.1]; exact s0
  have hll1 : l1 ≤ 16384 := by rw [← hL1, List.length_map, H1.out.1]; exact s1
  rw [hL0] at hlf0
  rw [hL1] at hlf1
  have HF0 := Lib.hid (fun y h => fix_fix (hasL (zs0.map QE.le) || hasL (zs1.map QE.le)) y (zs0.map QE.le) h)
  have HF1 := Lib.hid (fun y h => fix_fix (hasL (zs0.map QE.le) || hasL (zs1.map QE.le)) y (zs1.map QE.le) h)
  generalize hG0 : fix (hasL (zs0.map QE.le) || hasL (zs1.map QE.le)) (zs0.map QE.le) = f0 at *
  generalize hG1 : fix (hasL (zs0.map QE.le) || hasL (zs1.map QE.le)) (zs1.map QE.le) = f1 at *
  have E0 := Lib.hid (fun x0 l0 c0 (h : v0' = .slice x0 l0 c0) => hasA17 w5.drew v0' f0 (show FodR w5.drew v0' f0 from PS5.out.f1.fodR))
  have E1 := Lib.hid (hasA17 w5.drew v1' f1 (show FodR w5.drew v1' f1 from PS5.out.f2.fodR))
  have E0' := Lib.hid (hasA17 w5.drew v0' f0 (show FodR w5.drew v0' f0 from PS5.out.f1.fodR))
  have l0' := PS5.out.bl.cell 0
  simp [nullC] at l0'
  have ll := PS5.out.bl.lt
  have p1 := PS5.out.bp.cell 1
  simp [parC] at p1
  have pl := PS5.out.bp.lt
  obtain ⟨y0, z0, rfl, _⟩ := PS5.out.f1.open
  obtain ⟨y1, z1, rfl, _⟩ := PS5.out.f2.open
  have hpr := HPR.out
  clear E0 hG0 hG1
  go_wp2_with fail
  refine wp_region_all (by kernel_rfl) (by kernel_rfl) ?_
  repeat still_step
  still_call (E0'.out.mono fun e w1 h => ⟨h.1, h.2.symm⟩)
  repeat still_step
  still_call (E1.out.mono fun e w1 h => ⟨h.1, h.2.symm⟩)
  repeat still_step
  refine wpStill_nil ?_
  have PSD : Hid (ParS w5.drew (w4.heap.size + 1) w4.heap.size w3.heap.size (.slice y0 f0.length z0) (.slice y1 f1.length z1) f0 f1) := Lib.hid (PS5.out.below (Below.refl _ _).drew)
  have BD : Hid (Below w.heap.size w w5.drew) := Lib.hid B6.out.drew
  generalize w5.drew = W at *
  clear E0' E1 l0' ll p1 pl PS5 B6
  have q2 := PSD.out.bp.cell 2
  simp [parC] at q2
  have ql := PSD.out.bp.lt
  have K1 := Lib.hid (copy18 W (.slice none 0 0) [] ⟨none, rfl, rfl⟩ (by simp))
  have szx : ∀ b, (b = w4.heap.size ∨ b = w3.heap.size) → b < W.heap.size := by rintro b (h | h); rw [h]; exact PSD.out.bp.lt; rw [h]; exact PSD.out.bl.lt
  have HSX := Lib.hid szx
  clear szx
  go_wp2_with fail
  refine K1.out.mono ?_
  rintro e w6 ⟨vp, rfl, hvp, hb6⟩
  have XP := Lib.hid (made_X (X := fun b => b = w4.heap.size ∨ b = w3.heap.size) hvp HSX.out)
  obtain ⟨xa, xc, rfl, _⟩ := XP.out.fodR.open
  have PS6 := Lib.hid (PSD.out.below hb6)
  have BD6 := Lib.hid (BD.out.trans (hb6.mono BD.out.size))
  have hs6 := hb6.size
  have l0' := PS6.out.bl.cell 0
  simp [nullC] at l0'
  have ll := PS6.out.bl.lt
  have K2 := Lib.hid (copy18 w6 _ f0 PS6.out.f1.fodR (by omega))
  clear hvp hb6 K1 q2 ql
  go_wp2_with fail
  refine K2.out.mono ?_
  rintro e w7 ⟨va, rfl, hva, hb7⟩
  have XA := Lib.hid (made_X (X := fun b => b = w4.heap.size ∨ b = w3.heap.size) hva (fun b hb => Nat.lt_of_lt_of_le (HSX.out b hb) hs6))
  obtain ⟨xa2, xc2, rfl, _⟩ := XA.out.fodR.open
  rw [List.length_map] at XA
  simp only [List.length_map]
  have XP7 := Lib.hid (XP.out.below hb7)
  have PS7 := Lib.hid (PS6.out.below hb7)
  have BD7 := Lib.hid (BD6.out.trans (hb7.mono BD6.out.size))
  have hs7 := hb7.size
  have p1 := PS7.out.bp.cell 1
  simp [parC] at p1
  have pl := PS7.out.bp.lt
  have K3 := Lib.hid (copy18 w7 _ f1 PS7.out.f2.fodR (by omega))
  clear hva hb7 K2 l0' ll
  go_wp2_with fail
  refine K3.out.mono ?_
  rintro e w8 ⟨vb, rfl, hvb, hb8⟩
  have XB := Lib.hid (made_X (X := fun b => b = w4.heap.size ∨ b = w3.heap.size) hvb (fun b hb => Nat.lt_of_lt_of_le (HSX.out b hb) (Nat.le_trans hs6 hs7)))
  obtain ⟨xa3, xc3, rfl, _⟩ := XB.out.fodR.open
  rw [List.length_map] at XB
  simp only [List.length_map]
  have XP8 := Lib.hid (XP7.out.below hb8)
  have XA8 := Lib.hid (XA.out.below hb8)
  have PS8 := Lib.hid (PS7.out.below hb8)
  have BD8 := Lib.hid (BD7.out.trans (hb8.mono BD7.out.size))
  have hs8 := hb8.size
  have K4 := Lib.hid (par13 w8 _ _ _ _ _ _ _ PS8.out OK0.out OK1.out .nilIface)
  rw [HF0.out _ (fun h => by have := HP2.out h; exact this), HF1.out _ (fun h => by have := HP2.out h; exact this)] at K4
  clear hvb hb8 K3 p1 pl
  go_wp2_with fail
  refine K4.out.mono ?_
  rintro e w9 ⟨rfl, ⟨v0'', v1'', hps⟩, hfr⟩
  have PS9 := Lib.hid hps
  have XP9 := Lib.hid (XP8.out.fr hfr fun b h => h)
  have XA9 := Lib.hid (XA8.out.fr hfr fun b h => h)
  have XB9 := Lib.hid (XB.out.fr hfr fun b h => h)
  have BD9 := Lib.hid (hfr.below BD8.out BD8.out.size (by rintro b (h | h) <;> omega))
  clear hps hfr K4
  have q2 := PS9.out.bp.cell 2
  simp [parC] at q2
  have ql := PS9.out.bp.lt
  obtain ⟨y8, z8, rfl, _⟩ := PS9.out.f1.open
  obtain ⟨y9, z9, rfl, _⟩ := PS9.out.f2.open
  go_wp2_with fail
  refine (eq19 w9 (.slice none 0 0) _ [] _ ⟨none, rfl, rfl⟩ XP9.out.fodR rfl).mono ?_
  rintro e w10 ⟨rfl, hb10⟩
  have PS10 := Lib.hid (PS9.out.below hb10)
  have XA10 := Lib.hid (XA9.out.below hb10)
  have XB10 := Lib.hid (XB9.out.below hb10)
  have BD10 := Lib.hid (BD9.out.trans (hb10.mono BD9.out.size))
  have l0' := PS10.out.bl.cell 0
  simp [nullC] at l0'
  have ll := PS10.out.bl.lt
  clear hb10 q2 ql
  go_wp2_with fail
  refine (eq19 w10 _ _ f0 _ PS10.out.f1.fodR XA10.out.fodR (norm_norm f0).symm).mono ?_
  rintro e w11 ⟨rfl, hb11⟩
  have PS11 := Lib.hid (PS10.out.below hb11)
  have XB11 := Lib.hid (XB10.out.below hb11)
  have BD11 := Lib.hid (BD10.out.trans (hb11.mono BD10.out.size))
  have p1 := PS11.out.bp.cell 1
  simp [parC] at p1
  have pl := PS11.out.bp.lt
  clear hb11 l0' ll
  go_wp2_with fail
  refine (eq19 w11 _ _ f1 _ PS11.out.f2.fodR XB11.out.fodR (norm_norm f1).symm).mono ?_
  rintro e w12 ⟨rfl, hb12⟩
  have BD12 := Lib.hid (BD11.out.trans (hb12.mono BD11.out.size))
  clear hb12
  go_wp2_with fail
  go_ret
  exact ⟨rfl, BD12.out⟩
end Go.Proofs.YtlaghkppjdphnaaFmt
