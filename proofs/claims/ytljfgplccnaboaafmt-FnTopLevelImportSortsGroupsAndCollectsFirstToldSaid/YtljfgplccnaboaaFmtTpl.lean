/- topLevelImport at the chain end. -/
import Derived.Test.YtljfgplccnaboaaFmtTpi
namespace Go.Proofs.YtljfgplccnaboaaFmt
open Go.RowKit
set_option linter.unusedVariables false

set_option maxRecDepth 100000 in
set_option maxHeartbeats 6400000 in
theorem topLast (w : World) (C G : Nat → Prop) (I tb lb : Nat) (v : Value) (es : List IE) (ps : List (ByteArray × ByteArray)) (n0 : NE) (body : Value)  (o gof : Option Nat) (gv : Value) (hT : TopH w C G I tb lb v es ps n0 body [] o gof gv) :
    Calls Tryf.prog 25 #[.pointer (some ⟨lb, 0, none⟩), .pointer (some ⟨I, 0, none⟩), gv] w (TopD w I tb v es ps (pvN n0) [] gof) := by
  unfold TopD
  have HT := Lib.hid hT
  have hc := hT.ch
  have ht := hT.tl
  have hk := nextF_fk hT.fk hT.o0
  obtain ⟨gb, ib, sb, fv, s1, s2, s3, s4, h1, h2, h3, h4, _⟩ := hT.nd
  obtain ⟨fod0, path, var⟩ := n0
  obtain ⟨va0, va1, va2, rfl⟩ := own_slice hT.acc.own
  obtain ⟨gv0, gv1, gv2, rfl⟩ := hT.gf.is_slice
  have SS := Lib.hid (And.intro s1 (And.intro s2 (And.intro s3 s4)))
  clear hT s1 s2 s3 s4
  have K := Lib.hid (good31 w lb gb ib var body fv h1 h2)
  obtain ⟨l1, a0, a1, _⟩ := loc_cells _ _ _ h1
  obtain ⟨x, off, F, hop, hcell, hx, hF⟩ := open_next hc ht
  have HOP := Lib.hid hop
  have HCELL := Lib.hid hcell
  have HX := Lib.hid hx
  have HF := Lib.hid hF
  have H1 := Lib.hid h1
  have H2 := Lib.hid h2
  have H3 := Lib.hid h3
  have H4 := Lib.hid h4
  clear h1 h2 h3 h4 hop hcell hx hF hc ht
  simp only at H2 H4
  go_enter Tryf.func25, Tryf.ntmps25
  go_wp2_with fail
  refine K.out.mono ?_
  rintro e w1 ⟨rfl, hb⟩
  have a0' := (hb.cell (p := ⟨lb, 0, none⟩) l1).trans a0
  have a1' := (hb.cell (p := ⟨lb, 1, none⟩) l1).trans a1
  have l1' := Nat.lt_of_lt_of_le l1 hb.size
  have c1 := (hb.cell (p := ⟨x, off, none⟩) HX.out).trans HCELL.out
  have lx := Nat.lt_of_lt_of_le HX.out hb.size
  have HS := Lib.hid (split32 w1 C F _ (HF.out.fr (Fr.of_below hb (fun _ => False)) (fun _ _ h => h)) hk)
  have HB := Lib.hid hb
  clear hb K a0 a1 l1
  go_wp2_with fail
  refine (HOP.out w1).mono ?_
  rintro e w2 ⟨rfl, rfl⟩
  go_wp2_with fail
  refine HS.out.mono ?_
  rintro e w2 ⟨v1, v2, rfl, hv1, hv2, hb2⟩
  obtain ⟨⟨x1, n1, k1, rfl⟩, x2, n2, k2, rfl⟩ : (∃ a b c, v1 = .slice a b c) ∧ (∃ a b c, v2 = .slice a b c) := ⟨hv1.is_slice, hv2.is_slice⟩
  have hP := (Blk.new w2 44 #[.slice x1 n1 k1]).alloc (.cells #[.slice x2 n2 k2] 44)
  have hQ := Blk.new (w2.alloc (.cells #[.slice x1 n1 k1] 44)) 44 #[.slice x2 n2 k2]
  rw [size1] at hQ
  have hfr := ((Fr.refl w2 (fun _ => False)).alloc (.cells #[.slice x1 n1 k1] 44)).alloc (.cells #[.slice x2 n2 k2] 44)
  have KE := Lib.hid (ens33 _ _ _ _ _ hP (hv1.fr hfr (fun _ _ h => h)))
  have HV1 := Lib.hid hv1
  have HV2 := Lib.hid hv2
  have HSZ := Lib.hid (Nat.le_trans HB.out.size hb2.size)
  have HB2 := Lib.hid (HB.out.trans (hb2.mono HB.out.size))
  have HQ := Lib.hid hQ
  have HFR := Lib.hid hfr
  have b0 := (hb2.cell (p := ⟨lb, 0, none⟩) l1').trans a0'
  have b1 := (hb2.cell (p := ⟨lb, 1, none⟩) l1').trans a1'
  have bl := Nat.lt_of_lt_of_le l1' hb2.size
  clear a0' a1' l1' c1 lx HS hv1 hv2 hb2 hP hQ hfr
  go_wp2_with fail
  refine KE.out.mono ?_
  rintro e w3 ⟨rfl, hf3, v', hb3, hn3, hs3⟩
  have hF03 : Fr w w3 (fun _ => False) := ((Fr.of_below HB2.out (fun _ => False)).trans HFR.out).step hf3 (fun b hb h => by have := HB2.out.size; omega)
  have hsz3 : w2.heap.size + 2 ≤ w3.heap.size := by have := hf3.size; simp at this; omega
  obtain ⟨g, cg, rfl, hg, hgl⟩ : ∃ g cg, v' = .slice (some ⟨g, 0, none⟩) 1 cg ∧ FdB w3 g 0 ∧ w.heap.size ≤ g := by
    cases hnf : nextF o [] with
    | none =>
      rw [hnf] at hn3
      obtain ⟨g, c, rfl, hS, hg⟩ := hn3 rfl
      exact ⟨g, c, rfl, hg, by have := hS.1; have := HB2.out.size; simp at *; omega⟩
    | some k =>
      rw [hnf] at hs3
      have e1 := hs3 (by intro h; cases h)
      subst e1
      have hv := HV1.out
      rw [hnf] at hv
      obtain ⟨g, c, h1, hS, hg⟩ := hv
      exact ⟨g, c, h1, (hg.fr HFR.out (fun h => h)).fr hf3 (by have := hS.2; omega), Nat.le_trans HB.out.size hS.1⟩
  have hq3 := hf3.blk HQ.out (by omega)
  have hv23 : FdV w3 (NewB w1 w2) (.slice x2 n2 k2) (halfB (nextF o [])) := ((HV2.out.fr HFR.out (fun _ _ h => h)).fr hf3 (by intro b hb h; have := hb.2; omega))
  have d0 : w3.cell? ⟨lb, 0, none⟩ = some (.slice (some ⟨gb, 0, none⟩) 1 1) := by
    have := World.cell?_of_block (a := ⟨lb, 0, none⟩) ((hf3.block lb (by simp; omega) (by omega)).trans (HFR.out.block lb bl (fun h => h)))
    exact this.trans b0
  have dl : lb < w3.heap.size := by omega
  have p0 := hb3.cell 0
  have pl := hb3.lt
  simp at p0
  have KX := Lib.hid (extr34 w3.drew (fun b => b < w3.heap.size) gb ib sb path var (.slice (some ⟨g, 0, none⟩) 1 cg) (some 0) (hF03.blk H2.out (fun h => h)).drew (hF03.blk H3.out (fun h => h)).drew (hF03.blk H4.out (fun h => h)).drew ⟨g, cg, rfl, (by obtain ⟨_, _, _, q⟩ := hg; exact q.lt), hg⟩ (.inr rfl))
  have F03 := Lib.hid hF03
  have HG := Lib.hid hg
  have HGL := Lib.hid hgl
  have HQ3 := Lib.hid hq3
  have HV23 := Lib.hid hv23
  have S23 := Lib.hid hsz3
  clear hf3 hb3 hn3 hs3 hF03 hg hgl hq3 hv23 b0 b1 bl KE HV1 HV2 HQ HFR hsz3
  go_wp2_with fail
  refine wp_region_tail 5 (by kernel_rfl) (by kernel_rfl) ?_
  repeat still_step
  refine wpStill_nil ?_
  go_wp2_with fail
  refine KX.out.mono ?_
  rintro e w4 ⟨R, c4, rest4, g', cg', rfl, hR, hR4, hg4, _, hge, hb4⟩
  obtain ⟨rfl, rfl⟩ : g = g' ∧ cg = cg' := by
    have := hge (by intro h; cases h)
    injection this with h1 h2 h3
    injection h1 with h1
    injection h1 with h1
    exact ⟨h1, h3⟩
  obtain ⟨i0, hi, hz0, hz1, hz2⟩ := info_parts infI
  have F34 := Fr.of_below hb4 (fun _ => False)
  have F04 : Fr w w4 (fun _ => False) := F03.out.drew.trans F34
  have A4 := HT.out.acc.fr F04 (fun h => h) (fun _ _ h => h) (fun _ _ h => h) (fun _ _ h => h)
  have EL4 := Lib.hid (show ElC w4 C (mkI' g cg ib (path, var)) (path, var) from ⟨g, cg, ib, sb, rfl, SS.out.2.2.1, SS.out.2.2.2, F04.blk H3.out (fun h => h), F04.blk H4.out (fun h => h)⟩)
  have EF4 := Lib.hid (show ElFd w4 (mkI' g cg ib (path, var)) from ⟨g, rfl, hg4⟩)
  have NI4 := Lib.hid (HT.out.acc.fresh (e := mkI' g cg ib (path, var)) rfl HGL.out)
  have HLEN := Lib.hid HT.out.len
  have HQ4 := Lib.hid (F34.blk HQ3.out.drew (fun h => h))
  have HV4 := Lib.hid (HV23.out.fr ((Fr.refl w3 (fun _ => False)).drew.trans F34) (fun _ _ h => h))
  have NW4 := Lib.hid (news_row (e := mkI' g cg ib (path, var)) hR4)
  have q0 := A4.bI.cell 0
  simp at q0
  have A4' := Lib.hid A4
  have F04' := Lib.hid F04
  have hI0 := Lib.hid hi
  have hZ0 := Lib.hid hz0
  have hZ1 := Lib.hid hz1
  have hZ2 := Lib.hid hz2
  have hIl : I < w4.heap.size := A4.bI.lt
  have hsz4 := Lib.hid hb4.size
  clear hb4 hge hg4 hR hR4 A4 F04 F34 KX F03 HQ3 HV23 d0 dl p0 pl hi hz0 hz1 hz2
  go_wp2_with (first | (with_reducible show wpList _ _ _ (⟨some 42, _, _, _, _, _⟩ :: _) _ _; refine of_hid ?_) | fail)
  refine Lib.hid ?_
  have hlen := HLEN.out
  refine wpList_append_lies _ (o := ⟨some 42, _, _, _, _, _⟩) rfl (.tmp 40) (.tmp 41) 41 rfl 0 55 i0 _ 14 208 Tryf.underlying41 hI0.out hZ0.out hZ1.out hZ2.out (by simp [Value.cells, IE.cells]) (by omega) (.slice va0 va1 va2) es.length (cellsI es) rfl A4'.out.own _ 1 c4 (mkI' g cg ib (path, var)).cells rfl rfl NW4.out (IE.one _) (by omega) (by unfold maxLen; omega) (by omega) (Nat.zero_le _) _ rfl ?_
  intro g2 cap2 w5 hown hgrow hw2 hlt2
  have PU := Acc.push A4'.out hown hgrow hw2 EL4.out EF4.out NI4.out
  have bI5 : Blk w5 I 41 #[.slice va0 va1 va2] := A4'.out.bI.grown hgrow (fun hh => own_ne A4'.out.own hh.symm A4'.out.bI (by decide) rfl)
  have r0 := bI5.cell 0
  simp at r0
  have rf := bI5.free 0
  have rl := bI5.lt
  have FW1 : Fr w (w5.setCell ⟨I, 0, none⟩ (.slice (some ⟨g2, 0, none⟩) (es.length + 1) cap2)) (fun b => b = I ∨ (Value.slice va0 va1 va2).ownBlock = some b) := (F04'.out.sub (fun _ h => h.elim)).trans PU.2
  have hCX : ∀ b, C b → ¬ (b = I ∨ (Value.slice va0 va1 va2).ownBlock = some b) := fun b hb hx => (HT.out.cl b hb).2 (hx.elim .inl (fun h => .inr (.inr (.inl h))))
  have HQW := Lib.hid (PU.2.blk HQ4.out (fun hx => hx.elim (fun e => by have := HT.out.acc.bI.lt; have := HSZ.out; omega) (fun e => by have := own_lt HT.out.acc.own e; have := HSZ.out; omega)))
  have HVW := Lib.hid (HV4.out.fr PU.2 (fun b hb hx => hx.elim (fun e => by have := HT.out.acc.bI.lt; have := HB.out.size; have := hb.1; omega) (fun e => by have := own_lt HT.out.acc.own e; have := HB.out.size; have := hb.1; omega)))
  have H1W := FW1.blk H1.out (hCX _ SS.out.1)
  have K35 := Lib.hid (ends35 (w5.setCell ⟨I, 0, none⟩ (.slice (some ⟨g2, 0, none⟩) (es.length + 1) cap2)) C tb lb gb body fv _ H1W (HT.out.ch.fr FW1 hCX) HT.out.fk)
  obtain ⟨e0, e1, e2, _⟩ := loc_cells _ _ _ H1W
  have FW := Lib.hid FW1
  have AW := Lib.hid PU.1
  have HG2 := Lib.hid (show (∃ q, (Value.slice va0 va1 va2).ownBlock = some q ∧ q = g2) ∨ w.heap.size ≤ g2 from hw2.elim (fun h => .inl ⟨_, h, rfl⟩) (fun h => .inr (by rw [h]; exact F04'.out.size)))
  have S4 := Lib.hid (show w2.heap.size + 2 ≤ (w5.setCell ⟨I, 0, none⟩ (.slice (some ⟨g2, 0, none⟩) (es.length + 1) cap2)).heap.size by have := PU.2.size; have := hsz4.out; have := S23.out; simp at *; omega)
  clear hown hgrow hw2 hlt2 PU bI5 FW1 HQ4 HV4 NW4 EL4 EF4 NI4 A4' F04' hI0 hZ0 hZ1 hZ2 q0 hIl H1W hsz4 S23
  go_wp2_with fail
  clear r0 rf rl
  refine K35.out.mono ?_
  rintro e w6 ⟨rfl, hb6⟩
  have F6 := Fr.of_below hb6 (fun _ => False)
  have FW6 := Lib.hid (FW.out.trans (F6.sub (fun _ h => h.elim)))
  have AW6 := Lib.hid (AW.out.fr F6 (fun h => h) (fun _ _ h => h) (fun _ _ h => h) (fun _ _ h => h))
  have HQ6 := Lib.hid (F6.blk HQW.out (fun h => h))
  have HV6 := Lib.hid (HVW.out.fr F6 (fun _ _ h => h))
  have S6 := Lib.hid (Nat.le_trans S4.out hb6.size)
  have f1 := (hb6.cell (p := ⟨lb, 1, none⟩) e0).trans e2
  have fl := Nat.lt_of_lt_of_le e0 hb6.size
  clear FW AW HQW HVW S4 hb6 F6 K35 e0 e1 e2 HCELL HF HX HG
  have hends : endsB [] = true := rfl
  rw [hends]
  have hhalf : halfB (nextF o []) = none := by rcases HT.out.o0 with h | h <;> simp [nextF, halfB, h]
  have hv6 := HV6.out
  rw [hhalf] at hv6
  injection hv6 with g1 g3 g4
  subst g1 g3 g4
  obtain ⟨rest, hB6⟩ := own_row (AW6.out.own' rfl)
  have K36 := Lib.hid (group36 w6 g2 (es.length + 1) cap2 (es ++ [mkI' g cg ib (path, var)]) rest hB6 (by simp) (by omega) (AW6.out.vars HT.out.vs (fun p hp => by rcases List.mem_append.1 hp with h | h <;> simp_all [pvN])))
  have bi0 := AW6.out.bI.cell 0
  have bil := AW6.out.bI.lt
  simp at bi0
  clear hB6 f1 fl HV6
  go_wp2_with fail
  refine K36.out.mono ?_
  rintro e w7 ⟨es', rfl, hB7, hf7, h71, h72⟩
  have ST := Srt.of AW6.out hf7 rfl hB7 h71 h72
  obtain ⟨gz, cgz, ibz, pz, hz, hfz, hFz⟩ := ST.at_ (m := es.length) (by simp)
  have hgI : I ≠ g2 := own_ne AW6.out.own rfl AW6.out.bI (by decide)
  have hg8 : w2.heap.size + 1 ≠ g2 := own_ne AW6.out.own rfl HQ6.out (by decide)
  have bI7 := hf7.blk AW6.out.bI hgI
  have x0 := rowI_at hB7 hz 0 (by omega)
  rw [Nat.add_zero] at x0
  simp only [mkI', IE.cells, List.getElem?_cons_zero] at x0
  have BI7 := Lib.hid bI7
  have HQ7 := Lib.hid (hf7.blk HQ6.out hg8)
  have F7 : Fr w w7 (YT I (.slice va0 va1 va2) es) := (FW6.out.sub (fun b hx => hx.elim .inl (fun h => .inr (.inl h)))).step hf7 (fun b hb hx => by
    rcases HG2.out with ⟨q, hq, h2⟩ | h2
    · exact .inr (.inl (by rw [hq, h2, hx]))
    · omega)
  have HF7 := Lib.hid F7
  have HST := Lib.hid ST
  have HZ := Lib.hid hz
  have HFZ := Lib.hid hfz
  have HFZ2 := Lib.hid hFz
  have y0 := bI7.cell 0
  have yl := bI7.lt
  have gl7 := hB7.lt
  have gz7 : gz < w7.heap.size := by obtain ⟨_, _, _, hh⟩ := hfz; exact hh.lt
  simp at y0
  clear ST hz hfz hFz bI7 F7 hB7 hf7 h71 h72 K36 bi0 bil
  generalize hm : es.length = m at *
  go_wp2_with fail
  go_quiet (fail)
  have K33 := Lib.hid (ens33 (w7.drewN nq) _ (w2.heap.size + 1) (.slice none 0 0) none (HQ7.out.drewN nq) (show FdV (w7.drewN nq) (fun _ => False) (.slice none 0 0) none from rfl))
  go_wp2_with fail
  refine K33.out.mono ?_
  rintro e w8 ⟨rfl, hf8, v', hb8, hn8, hs8⟩
  obtain ⟨gq, cq, rfl, hSq, hFq⟩ := hn8 rfl
  have hq8 := hb8.cell 0
  have hql := hb8.lt
  simp at hq8
  have hF78 : Fr w7 w8 (fun b => b = w2.heap.size + 1) := ⟨hf8.os, hf8.tape, hf8.output, hf8.size, hf8.block⟩
  have K37 := Lib.hid (concat37 w8 gz cgz gq cq 0 (HFZ.out.fr hF78 (by obtain ⟨_, _, _, hh⟩ := HFZ.out; exact blk_ne hh HQ7.out (by decide))) hFq (by omega))
  have HF78 := Lib.hid hF78
  clear hf8 hb8 hn8 hs8 hF78 K33 x0 y0 yl
  go_wp2_with fail
  refine K37.out.mono ?_
  rintro e w9 ⟨rfl, hf9, hgz9⟩
  have hk79 : ∀ (b : Nat) (t : TypeId) (cs : Array Value), t ≠ 44 → t ≠ 66 → b ≠ gz → Blk w7 b t cs → Blk w9 b t cs := fun b t cs h1 _ h3 hb => hf9.blk (HF78.out.blk hb (blk_ne hb HQ7.out h1)) h3
  have F9 : Fr w w9 (YT I (.slice va0 va1 va2) es) := (HF7.out.step HF78.out (fun b hb hx => by have := HSZ.out; omega)).step hf9 (fun b hb hx => .inr (.inr (by subst hx; exact FB.grow HFZ2.out HGL.out hb)))
  have s79 : w7.heap.size ≤ w9.heap.size := Nat.le_trans HF78.out.size hf9.size
  have hbI9 := hk79 _ _ _ (by decide) (by decide) (by obtain ⟨_, _, _, hh⟩ := HFZ.out; exact blk_ne BI7.out hh (by decide)) BI7.out
  have hL9 := F9.blk H1.out (fun hy => (HT.out.cl _ SS.out.1).2 hy.xt)
  obtain ⟨z0, z1, z2, _⟩ := loc_cells _ _ _ hL9
  obtain ⟨fvt, hbt, hft⟩ := HT.out.tl.fr F9 HT.out.ytb (fun b hb hy => (HT.out.cl b hb).2 hy.xt)
  have HK79 := Lib.hid hk79
  have HF9 := Lib.hid F9
  have S79 := Lib.hid s79
  have HBI9 := Lib.hid hbI9
  have HL9 := Lib.hid hL9
  have HGZ9 := Lib.hid hgz9
  have HBT9 := Lib.hid hbt
  have HFT9 := Lib.hid hft
  clear hk79 F9 s79 hbI9 hL9 hgz9 hbt hft hf9 hq8 hql K37 hFq
  obtain rfl : body = nulV tb := HT.out.ch
  have K29 := Lib.hid (good29n w9 tb)
  unfold nulV at K29 z2
  go_wp2_with fail
  refine K29.out.mono ?_
  rintro e w10 ⟨rfl, rfl⟩
  have K30 := Lib.hid (open30n w9 tb)
  have htW : Blk (w9.setCell ⟨tb, 0, none⟩ (.slice (some ⟨gz, 0, none⟩) 1 cgz)) tb 66 (nb (.slice (some ⟨gz, 0, none⟩) 1 cgz)).toArray := by
    have := HBT9.out.set 0 (.slice (some ⟨gz, 0, none⟩) 1 cgz)
    simpa [nb] using this
  have FW : Fr w (w9.setCell ⟨tb, 0, none⟩ (.slice (some ⟨gz, 0, none⟩) 1 cgz)) (XT I tb (.slice va0 va1 va2) es) := (HF9.out.sub (fun b hy => hy.xt)).setCell _ _ (.inl (.inr (.inl rfl)))
  have hkW : ∀ (b : Nat) (t : TypeId) (cs : Array Value), t ≠ 44 → t ≠ 66 → b ≠ gz → Blk w7 b t cs → Blk (w9.setCell ⟨tb, 0, none⟩ (.slice (some ⟨gz, 0, none⟩) 1 cgz)) b t cs := fun b t cs h1 h2 h3 hb => (HK79.out b t cs h1 h2 h3 hb).far (p := ⟨tb, 0, none⟩) (blk_ne (HK79.out b t cs h1 h2 h3 hb) HBT9.out h2) _
  have hsW : w7.heap.size ≤ (w9.setCell ⟨tb, 0, none⟩ (.slice (some ⟨gz, 0, none⟩) 1 cgz)).heap.size := by simpa using S79.out
  have htl7 : ∃ cs, Blk w7 tb 66 cs := by obtain ⟨fv7, h7, _⟩ := HT.out.tl.fr HF7.out HT.out.ytb (fun b hb hy => (HT.out.cl b hb).2 hy.xt); exact ⟨_, h7⟩
  obtain ⟨cs7, ht7⟩ := htl7
  obtain ⟨hBW, heW, hfW⟩ := HST.out.bld HZ.out (by simp [hm]) hkW hsW ht7 (fun b hb e => (HT.out.cl b hb).2 (.inr (.inl e)))
  have hgW : FdB (w9.setCell ⟨tb, 0, none⟩ (.slice (some ⟨gz, 0, none⟩) 1 cgz)) gz 0 := by
    obtain ⟨_, _, _, hh⟩ := HGZ9.out
    exact ⟨_, _, _, hh.far (p := ⟨tb, 0, none⟩) (blk_ne hh HBT9.out (by decide)) _⟩
  have hbIW := HBI9.out.far (p := ⟨tb, 0, none⟩) (blk_ne HBI9.out HBT9.out (by decide)) (.slice (some ⟨gz, 0, none⟩) 1 cgz)
  have hlen' : es'.length = m + 1 := by rw [HST.out.len]; simp [hm]
  have hlp : (es'.map pvI).length = m + 1 := by rw [List.length_map, hlen']
  have hgof : FdV (w9.setCell ⟨tb, 0, none⟩ (.slice (some ⟨gz, 0, none⟩) 1 cgz)) (Lt tb (w9.setCell ⟨tb, 0, none⟩ (.slice (some ⟨gz, 0, none⟩) 1 cgz))) (.slice gv0 gv1 gv2) gof := (HT.out.gf.fr FW (fun b hb => (HT.out.gl b hb).2)).sub (fun b hb => ⟨fun e => (HT.out.gl b hb).2 (.inr (.inl e)), Nat.lt_of_lt_of_le (HT.out.gl b hb).1 FW.size⟩)
  have K38 := Lib.hid (build38 _ tb g2 (m + 1) cap2 es' (es'.map pvI) rest 29 tb gof gv0 gv1 gv2 hBW hlen' hlp (by omega) htW.lt heW hfW hgof)
  have bt0 := HBT9.out.cell 0
  have btf := HBT9.out.free 0
  have btl := HBT9.out.lt
  have bi0 := hbIW.cell 0
  have bil := hbIW.lt
  simp at bi0
  simp [nb] at bt0
  have HTW := Lib.hid htW
  have HFW := Lib.hid FW
  have HBIW := Lib.hid hbIW
  have HGW := Lib.hid hgW
  have HBW := Lib.hid hBW
  have HLP := Lib.hid hlp
  have HSO := Lib.hid HST.out.so
  unfold nulV at K30
  clear htW FW hkW hsW hBW heW hfW hgW hbIW hlen' hlp hgof K29 ht7 HST
  go_wp2_with fail
  refine K30.out.mono ?_
  rintro e w10 ⟨rfl, rfl⟩
  go_wp2_with fail
  refine K38.out.mono ?_
  rintro e w11 ⟨vo, rfl, hseg, hbel⟩
  have HSEG := Lib.hid hseg
  have HBEL := Lib.hid hbel
  clear hseg hbel bt0 btf btl K38 K30
  go_wp2_with fail
  go_ret
  have fB := Fr.of_below HBEL.out (fun _ => False)
  refine ⟨vo, nodesOf gof (es'.map pvI), es'.map pvI, es', g2, cap2, rest, rfl, .last _ _ _ _ HSO.out, ?_, ?_, HFW.out.trans (fB.sub (fun _ h => h.elim)), ?_, fB.blk HBW.out (fun h => h), rfl⟩
  · have := HSEG.out.chain (tb := tb) (ms := []) rfl
    rwa [List.append_nil] at this
  · refine ⟨_, fB.blk HTW.out (fun h => h), gz, cgz, rfl, ⟨?_, ?_⟩, HGW.out.fr fB (fun h => h)⟩
    · obtain ⟨_, _, _, hh⟩ := HGW.out
      exact blk_ne hh HTW.out (by decide)
    · obtain ⟨_, _, _, hh⟩ := HGW.out
      exact (fB.blk hh (fun h => h)).lt
  · rw [HLP.out]
    exact fB.blk HBIW.out (fun h => h)
end Go.Proofs.YtljfgplccnaboaaFmt
