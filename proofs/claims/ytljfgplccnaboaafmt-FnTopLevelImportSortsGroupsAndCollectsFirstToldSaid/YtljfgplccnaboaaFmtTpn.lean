/- topLevelImport where the group goes on. -/
import Derived.Test.YtljfgplccnaboaaFmtTph
namespace Go.Proofs.YtljfgplccnaboaaFmt
open Go.RowKit
set_option linter.unusedVariables false

set_option maxRecDepth 100000 in
set_option maxHeartbeats 6400000 in
theorem topNext (w : World) (C G : Nat → Prop) (I tb lb : Nat) (v : Value) (es : List IE) (ps : List (ByteArray × ByteArray)) (n0 : NE) (body : Value) (n : NE) (ns : List NE) (o gof : Option Nat) (gv : Value) (hT : TopH w C G I tb lb v es ps n0 body (n :: ns) o gof gv) (IH : ∀ (w : World) (C G : Nat → Prop) (I lb : Nat) (v : Value) (es : List IE) (ps : List (ByteArray × ByteArray)) (n0 : NE) (body : Value) (o gof : Option Nat) (gv : Value), TopH w C G I tb lb v es ps n0 body ns o gof gv → Calls Tryf.prog 25 #[.pointer (some ⟨lb, 0, none⟩), .pointer (some ⟨I, 0, none⟩), gv] w (TopD w I tb v es ps (pvN n0) ns gof)) (hn : n.fod ≠ some 1) :
    Calls Tryf.prog 25 #[.pointer (some ⟨lb, 0, none⟩), .pointer (some ⟨I, 0, none⟩), gv] w (TopD w I tb v es ps (pvN n0) (n :: ns) gof) := by
  unfold TopD
  have HT := Lib.hid hT
  have hc := hT.ch
  have ht := hT.tl
  have hk := nextF_fk hT.fk hT.o0
  obtain ⟨gb, ib, sb, fv, s1, s2, s3, s4, h1, h2, h3, h4, _⟩ := hT.nd
  obtain ⟨fod0, path, var⟩ := n0
  obtain ⟨va0, va1, va2, rfl⟩ := own_slice hT.acc.own
  obtain ⟨gv0, gv1, gv2, rfl⟩ := hT.gf.is_slice
  have SS := Lib.hid (And.intro s1 (And.intro s2 (And.intro s3 s4)))
  clear hT s1 s2 s3 s4
  have K := Lib.hid (good31 w lb gb ib var body fv h1 h2)
  obtain ⟨l1, a0, a1, _⟩ := loc_cells _ _ _ h1
  obtain ⟨x, off, F, hop, hcell, hx, hF⟩ := open_next hc ht
  have HOP := Lib.hid hop
  have HCELL := Lib.hid hcell
  have HX := Lib.hid hx
  have HF := Lib.hid hF
  have H1 := Lib.hid h1
  have H2 := Lib.hid h2
  have H3 := Lib.hid h3
  have H4 := Lib.hid h4
  clear h1 h2 h3 h4 hop hcell hx hF hc ht
  simp only at H2 H4
  go_enter Tryf.func25, Tryf.ntmps25
  go_wp2_with fail
  refine K.out.mono ?_
  rintro e w1 ⟨rfl, hb⟩
  have a0' := (hb.cell (p := ⟨lb, 0, none⟩) l1).trans a0
  have a1' := (hb.cell (p := ⟨lb, 1, none⟩) l1).trans a1
  have l1' := Nat.lt_of_lt_of_le l1 hb.size
  have c1 := (hb.cell (p := ⟨x, off, none⟩) HX.out).trans HCELL.out
  have lx := Nat.lt_of_lt_of_le HX.out hb.size
  have HS := Lib.hid (split32 w1 C F _ (HF.out.fr (Fr.of_below hb (fun _ => False)) (fun _ _ h => h)) hk)
  have HB := Lib.hid hb
  clear hb K a0 a1 l1
  go_wp2_with fail
  refine (HOP.out w1).mono ?_
  rintro e w2 ⟨rfl, rfl⟩
  go_wp2_with fail
  refine HS.out.mono ?_
  rintro e w2 ⟨v1, v2, rfl, hv1, hv2, hb2⟩
  obtain ⟨⟨x1, n1, k1, rfl⟩, x2, n2, k2, rfl⟩ : (∃ a b c, v1 = .slice a b c) ∧ (∃ a b c, v2 = .slice a b c) := ⟨hv1.is_slice, hv2.is_slice⟩
  have hP := (Blk.new w2 44 #[.slice x1 n1 k1]).alloc (.cells #[.slice x2 n2 k2] 44)
  have hQ := Blk.new (w2.alloc (.cells #[.slice x1 n1 k1] 44)) 44 #[.slice x2 n2 k2]
  rw [size1] at hQ
  have hfr := ((Fr.refl w2 (fun _ => False)).alloc (.cells #[.slice x1 n1 k1] 44)).alloc (.cells #[.slice x2 n2 k2] 44)
  have KE := Lib.hid (ens33 _ _ _ _ _ hP (hv1.fr hfr (fun _ _ h => h)))
  have HV1 := Lib.hid hv1
  have HV2 := Lib.hid hv2
  have HSZ := Lib.hid (Nat.le_trans HB.out.size hb2.size)
  have HB2 := Lib.hid (HB.out.trans (hb2.mono HB.out.size))
  have HQ := Lib.hid hQ
  have HFR := Lib.hid hfr
  have b0 := (hb2.cell (p := ⟨lb, 0, none⟩) l1').trans a0'
  have b1 := (hb2.cell (p := ⟨lb, 1, none⟩) l1').trans a1'
  have bl := Nat.lt_of_lt_of_le l1' hb2.size
  clear a0' a1' l1' c1 lx HS hv1 hv2 hb2 hP hQ hfr
  go_wp2_with fail
  refine KE.out.mono ?_
  rintro e w3 ⟨rfl, hf3, v', hb3, hn3, hs3⟩
  have hF03 : Fr w w3 (fun _ => False) := ((Fr.of_below HB2.out (fun _ => False)).trans HFR.out).step hf3 (fun b hb h => by have := HB2.out.size; omega)
  have hsz3 : w2.heap.size + 2 ≤ w3.heap.size := by have := hf3.size; simp at this; omega
  obtain ⟨g, cg, rfl, hg, hgl⟩ : ∃ g cg, v' = .slice (some ⟨g, 0, none⟩) 1 cg ∧ FdB w3 g 0 ∧ w.heap.size ≤ g := by
    cases hnf : nextF o (n :: ns) with
    | none =>
      rw [hnf] at hn3
      obtain ⟨g, c, rfl, hS, hg⟩ := hn3 rfl
      exact ⟨g, c, rfl, hg, by have := hS.1; have := HB2.out.size; simp at *; omega⟩
    | some k =>
      rw [hnf] at hs3
      have e1 := hs3 (by intro h; cases h)
      subst e1
      have hv := HV1.out
      rw [hnf] at hv
      obtain ⟨g, c, h1, hS, hg⟩ := hv
      exact ⟨g, c, h1, (hg.fr HFR.out (fun h => h)).fr hf3 (by have := hS.2; omega), Nat.le_trans HB.out.size hS.1⟩
  have hq3 := hf3.blk HQ.out (by omega)
  have hv23 : FdV w3 (NewB w1 w2) (.slice x2 n2 k2) (halfB (nextF o (n :: ns))) := ((HV2.out.fr HFR.out (fun _ _ h => h)).fr hf3 (by intro b hb h; have := hb.2; omega))
  have d0 : w3.cell? ⟨lb, 0, none⟩ = some (.slice (some ⟨gb, 0, none⟩) 1 1) := by
    have := World.cell?_of_block (a := ⟨lb, 0, none⟩) ((hf3.block lb (by simp; omega) (by omega)).trans (HFR.out.block lb bl (fun h => h)))
    exact this.trans b0
  have dl : lb < w3.heap.size := by omega
  have p0 := hb3.cell 0
  have pl := hb3.lt
  simp at p0
  have KX := Lib.hid (extr34 w3.drew (fun b => b < w3.heap.size) gb ib sb path var (.slice (some ⟨g, 0, none⟩) 1 cg) (some 0) (hF03.blk H2.out (fun h => h)).drew (hF03.blk H3.out (fun h => h)).drew (hF03.blk H4.out (fun h => h)).drew ⟨g, cg, rfl, (by obtain ⟨_, _, _, q⟩ := hg; exact q.lt), hg⟩ (.inr rfl))
  have F03 := Lib.hid hF03
  have HG := Lib.hid hg
  have HGL := Lib.hid hgl
  have HQ3 := Lib.hid hq3
  have HV23 := Lib.hid hv23
  have S23 := Lib.hid hsz3
  clear hf3 hb3 hn3 hs3 hF03 hg hgl hq3 hv23 b0 b1 bl KE HV1 HV2 HQ HFR hsz3
  go_wp2_with fail
  refine wp_region_tail 5 (by kernel_rfl) (by kernel_rfl) ?_
  repeat still_step
  refine wpStill_nil ?_
  go_wp2_with fail
  refine KX.out.mono ?_
  rintro e w4 ⟨R, c4, rest4, g', cg', rfl, hR, hR4, hg4, _, hge, hb4⟩
  obtain ⟨rfl, rfl⟩ : g = g' ∧ cg = cg' := by
    have := hge (by intro h; cases h)
    injection this with h1 h2 h3
    injection h1 with h1
    injection h1 with h1
    exact ⟨h1, h3⟩
  obtain ⟨i0, hi, hz0, hz1, hz2⟩ := info_parts infI
  have F34 := Fr.of_below hb4 (fun _ => False)
  have F04 : Fr w w4 (fun _ => False) := F03.out.drew.trans F34
  have A4 := HT.out.acc.fr F04 (fun h => h) (fun _ _ h => h) (fun _ _ h => h) (fun _ _ h => h)
  have EL4 := Lib.hid (show ElC w4 C (mkI' g cg ib (path, var)) (path, var) from ⟨g, cg, ib, sb, rfl, SS.out.2.2.1, SS.out.2.2.2, F04.blk H3.out (fun h => h), F04.blk H4.out (fun h => h)⟩)
  have EF4 := Lib.hid (show ElFd w4 (mkI' g cg ib (path, var)) from ⟨g, rfl, hg4⟩)
  have NI4 := Lib.hid (HT.out.acc.fresh (e := mkI' g cg ib (path, var)) rfl HGL.out)
  have HLEN := Lib.hid HT.out.len
  have HQ4 := Lib.hid (F34.blk HQ3.out.drew (fun h => h))
  have HV4 := Lib.hid (HV23.out.fr ((Fr.refl w3 (fun _ => False)).drew.trans F34) (fun _ _ h => h))
  have NW4 := Lib.hid (news_row (e := mkI' g cg ib (path, var)) hR4)
  have q0 := A4.bI.cell 0
  simp at q0
  have A4' := Lib.hid A4
  have F04' := Lib.hid F04
  have hI0 := Lib.hid hi
  have hZ0 := Lib.hid hz0
  have hZ1 := Lib.hid hz1
  have hZ2 := Lib.hid hz2
  have hIl : I < w4.heap.size := A4.bI.lt
  have hsz4 := Lib.hid hb4.size
  clear hb4 hge hg4 hR hR4 A4 F04 F34 KX F03 HQ3 HV23 d0 dl p0 pl hi hz0 hz1 hz2
  go_wp2_with (first | (with_reducible show wpList _ _ _ (⟨some 42, _, _, _, _, _⟩ :: _) _ _; refine of_hid ?_) | fail)
  refine Lib.hid ?_
  have hlen := HLEN.out
  refine wpList_append_lies _ (o := ⟨some 42, _, _, _, _, _⟩) rfl (.tmp 40) (.tmp 41) 41 rfl 0 55 i0 _ 14 208 Tryf.underlying41 hI0.out hZ0.out hZ1.out hZ2.out (by simp [Value.cells, IE.cells]) (by omega) (.slice va0 va1 va2) es.length (cellsI es) rfl A4'.out.own _ 1 c4 (mkI' g cg ib (path, var)).cells rfl rfl NW4.out (IE.one _) (by omega) (by unfold maxLen; omega) (by omega) (Nat.zero_le _) _ rfl ?_
  intro g2 cap2 w5 hown hgrow hw2 hlt2
  have PU := Acc.push A4'.out hown hgrow hw2 EL4.out EF4.out NI4.out
  have bI5 : Blk w5 I 41 #[.slice va0 va1 va2] := A4'.out.bI.grown hgrow (fun hh => own_ne A4'.out.own hh.symm A4'.out.bI (by decide) rfl)
  have r0 := bI5.cell 0
  simp at r0
  have rf := bI5.free 0
  have rl := bI5.lt
  have FW1 : Fr w (w5.setCell ⟨I, 0, none⟩ (.slice (some ⟨g2, 0, none⟩) (es.length + 1) cap2)) (fun b => b = I ∨ (Value.slice va0 va1 va2).ownBlock = some b) := (F04'.out.sub (fun _ h => h.elim)).trans PU.2
  have hCX : ∀ b, C b → ¬ (b = I ∨ (Value.slice va0 va1 va2).ownBlock = some b) := fun b hb hx => (HT.out.cl b hb).2 (hx.elim .inl (fun h => .inr (.inr (.inl h))))
  have HQW := Lib.hid (PU.2.blk HQ4.out (fun hx => hx.elim (fun e => by have := HT.out.acc.bI.lt; have := HSZ.out; omega) (fun e => by have := own_lt HT.out.acc.own e; have := HSZ.out; omega)))
  have HVW := Lib.hid (HV4.out.fr PU.2 (fun b hb hx => hx.elim (fun e => by have := HT.out.acc.bI.lt; have := HB.out.size; have := hb.1; omega) (fun e => by have := own_lt HT.out.acc.own e; have := HB.out.size; have := hb.1; omega)))
  have H1W := FW1.blk H1.out (hCX _ SS.out.1)
  have K35 := Lib.hid (ends35 (w5.setCell ⟨I, 0, none⟩ (.slice (some ⟨g2, 0, none⟩) (es.length + 1) cap2)) C tb lb gb body fv _ H1W (HT.out.ch.fr FW1 hCX) HT.out.fk)
  obtain ⟨e0, e1, e2, _⟩ := loc_cells _ _ _ H1W
  have FW := Lib.hid FW1
  have AW := Lib.hid PU.1
  have HG2 := Lib.hid (show (∃ q, (Value.slice va0 va1 va2).ownBlock = some q ∧ q = g2) ∨ w.heap.size ≤ g2 from hw2.elim (fun h => .inl ⟨_, h, rfl⟩) (fun h => .inr (by rw [h]; exact F04'.out.size)))
  have S4 := Lib.hid (show w2.heap.size + 2 ≤ (w5.setCell ⟨I, 0, none⟩ (.slice (some ⟨g2, 0, none⟩) (es.length + 1) cap2)).heap.size by have := PU.2.size; have := hsz4.out; have := S23.out; simp at *; omega)
  clear hown hgrow hw2 hlt2 PU bI5 FW1 HQ4 HV4 NW4 EL4 EF4 NI4 A4' F04' hI0 hZ0 hZ1 hZ2 q0 hIl H1W hsz4 S23
  go_wp2_with fail
  clear r0 rf rl
  refine K35.out.mono ?_
  rintro e w6 ⟨rfl, hb6⟩
  have F6 := Fr.of_below hb6 (fun _ => False)
  have FW6 := Lib.hid (FW.out.trans (F6.sub (fun _ h => h.elim)))
  have AW6 := Lib.hid (AW.out.fr F6 (fun h => h) (fun _ _ h => h) (fun _ _ h => h) (fun _ _ h => h))
  have HQ6 := Lib.hid (F6.blk HQW.out (fun h => h))
  have HV6 := Lib.hid (HVW.out.fr F6 (fun _ _ h => h))
  have S6 := Lib.hid (Nat.le_trans S4.out hb6.size)
  have f1 := (hb6.cell (p := ⟨lb, 1, none⟩) e0).trans e2
  have fl := Nat.lt_of_lt_of_le e0 hb6.size
  clear FW AW HQW HVW S4 hb6 F6 K35 e0 e1 e2 HCELL HF HX HG
  have hfk := HT.out.fk n (by simp)
  have hends : endsB (n :: ns) = false := by
    rcases hfk with h | h | h
    · simp [endsB, h]
    · simp [endsB, h]
    · exact absurd h hn
  have hhalf : halfB (nextF o (n :: ns)) = none := by
    rcases hfk with h | h | h
    · simp [nextF, halfB, h]
    · simp [nextF, halfB, h]
    · exact absurd h hn
  rw [hends]
  have hv6 := HV6.out
  rw [hhalf] at hv6
  injection hv6 with g1 g3 g4
  subst g1 g3 g4
  obtain ⟨lb2, body2, rfl, hn2, hc2⟩ := HT.out.ch
  have r8 := HQ6.out.cell 0
  have r8l := HQ6.out.lt
  simp at r8
  have hXT : ∀ b, b < w.heap.size → ¬ XT I tb (.slice va0 va1 va2) es b → ¬ XT I tb (.slice (some ⟨g2, 0, none⟩) (es.length + 1) cap2) (es ++ [mkI' g cg ib (path, var)]) b := fun b hb hx hy => hx (XT.grow hy HG2.out HGL.out hb)
  have hGX : ∀ b, G b → ¬ (b = I ∨ (Value.slice va0 va1 va2).ownBlock = some b) := fun b hb hx => (HT.out.gl b hb).2 (hx.elim .inl (fun h => .inr (.inr (.inl h))))
  have KR := Lib.hid (IH w6 C G I lb2 (.slice (some ⟨g2, 0, none⟩) (es.length + 1) cap2) (es ++ [mkI' g cg ib (path, var)]) (ps ++ [(path, var)]) n body2 o gof (.slice gv0 gv1 gv2) ⟨hn2.fr FW6.out hCX, hc2.fr FW6.out hCX, HT.out.tl.fr FW6.out HT.out.tb.2 hCX, HT.out.o0, fun m hm => HT.out.fk m (by simp [hm]), AW6.out, fun b hb => ⟨Nat.lt_of_lt_of_le (HT.out.cl b hb).1 FW6.out.size, hXT b (HT.out.cl b hb).1 (HT.out.cl b hb).2⟩, HT.out.gf.fr FW6.out hGX, fun b hb => ⟨Nat.lt_of_lt_of_le (HT.out.gl b hb).1 FW6.out.size, hXT b (HT.out.gl b hb).1 (HT.out.gl b hb).2⟩, (by simp at hlen ⊢; omega), fun p hp => HT.out.vs p (by simpa [pvN] using hp)⟩)
  unfold locV at f1
  clear IH hn2 hc2 hXT hGX hCX AW6 HQ6 HV6
  go_wp2_with fail
  refine KR.out.mono ?_
  rintro e w7 ⟨va, out, f, es', R', c', rest', rfl, hti, hc, htl, hfr, hbI, hbR, hm⟩
  have HTI := Lib.hid hti
  have HC := Lib.hid hc
  have HTL := Lib.hid htl
  have HFR := Lib.hid hfr
  have HBI := Lib.hid hbI
  have HBR := Lib.hid hbR
  have HM := Lib.hid hm
  clear hti hc htl hfr hbI hbR hm KR r8 r8l f1 fl
  go_wp2_with fail
  go_ret
  refine ⟨va, out, f, es', R', c', rest', rfl, .next _ _ _ _ _ _ _ hn HTI.out, HC.out, HTL.out, ?_, HBI.out, HBR.out, HM.out⟩
  exact (FW6.out.sub (fun b hx => hx.elim .inl (fun h => .inr (.inr (.inl h))))).step HFR.out (fun b hb hx => XT.grow hx HG2.out HGL.out hb)
end Go.Proofs.YtljfgplccnaboaaFmt
