/- splitFodder: the walk. -/
import Derived.Test.YtakhhnjnohnllaaFmtSpm
import Derived.Deep.RegionLaw
namespace Go.Proofs.YtakhhnjnohnllaaFmt
open Go.RowKit
set_option linter.unusedVariables false

def Halved (w : World) (es : List LE) (e : Ending) (w' : World) : Prop :=
  ∃ av bv, e = .returned (.tuple #[av, bv]) ∧ (∃ f, FodV w' (fun b => b < w'.heap.size) av f ∧ f.getD [] = (splF es).1) ∧ (∃ f, FodV w' (fun b => b < w'.heap.size) bv f ∧ f.getD [] = (splF es).2.1) ∧ Below w.heap.size w w'

set_option maxRecDepth 100000 in
set_option maxHeartbeats 6400000 in
theorem split_any (w : World) (v : Value) (f : Option (List LE)) (hf : FodV w (fun b => b < w.heap.size) v f) (hm : (f.getD []).length ≤ 1048576) :
    Calls Tryf.prog 15 #[v] w (Halved w (f.getD [])) := by
  obtain ⟨a, cap, rfl, hle, hfod, _⟩ := hf.open
  unfold Halved
  generalize f.getD [] = es at *
  clear hf
  generalize hn : es.length = n at *
  have HN := Lib.hid hn
  have HF := Lib.hid hfod
  obtain ⟨i0, hi, hz0, hz1, hz2⟩ := info_parts infE
  have HI := Lib.hid hi
  have HZ0 := Lib.hid hz0
  have HZ1 := Lib.hid hz1
  have HZ2 := Lib.hid hz2
  have HS0 := Lib.hid (Spl.zero w (fun b => b < w.heap.size) (fun b hb => hb))
  clear hi hz0 hz1 hz2 hn hfod
  go_enter Tryf.func15, Tryf.ntmps15
  go_wp2_with fail
  go_loopw [4, 6, 11] (fun av sv i wr => ∃ k : Nat, k ≤ n ∧ i = .int .i64 k ∧ sv = .bool (splF (es.take k)).2.2 ∧ (∃ x l c, av = .slice x l c) ∧ Hid (∃ ea bv eb rb, Spl w wr w.heap.size (fun b => b < w.heap.size) av ea bv eb rb (splF (es.take k)).1 (splF (es.take k)).2.1)) (fun _ _ i _ => n - (intOf i).toNat)
  case atStart => exact ⟨0, Nat.zero_le _, rfl, rfl, ⟨_, _, _, rfl⟩, Lib.hid ⟨[], _, [], _, HS0.out⟩⟩
  case round =>
    clear HS0
    obtain ⟨k, hk, rfl, rfl, ⟨ax, al, ac, rfl⟩, hst⟩ := hrel
    obtain ⟨ea, bv, eb, rb, hst⟩ := hst.out
    have hl1 := splF_le (es.take k)
    have hk2 : (es.take k).length ≤ k := by simp; exact Nat.min_le_left _ _
    have hea : ea.length ≤ 1048576 := by rw [hst.a.1]; omega
    have pl := hst.b.bp.lt
    have c0 := hst.b.bp.cell 0
    simp at c0
    have f0 := hst.b.bp.free 0
    obtain ⟨bx, bl', bc, rfl⟩ := hst.b.ownF.is_sliceV
    have HST := Lib.hid hst
    by_cases hlt : k < n
    · obtain ⟨e, he⟩ : ∃ e, es[k]? = some e := ⟨es[k]'(by rw [HN.out]; exact hlt), by simp⟩
      have hag : Agree (fun b => b < w.heap.size) w wr := Agree.of_below hst.bel fun b h => h
      obtain ⟨b, off, com, hx, hb, hcm, x0, x1, x2, x3⟩ := (HF.out.keep hag).at he
      subst hx
      obtain ⟨ca, cl, cc', rfl⟩ := hcm.is_slice
      have hbw : b < wr.heap.size := Nat.lt_trans hb pl
      have hsu := splF_succ es k e he
      have HCM := Lib.hid (hcm.keep (Agree.alloc (fun b => b < w.heap.size) wr (.cells #[.slice ca cl cc', .int .i64 e.kind, .int .i64 e.blanks, .int .i64 e.indent] 36) fun b hb => Nat.lt_trans hb pl))
      clear hst he hcm hag
      obtain ⟨kd, bl, ind, cm⟩ := e
      simp only at x0 x1 x2 x3 HCM
      cases hsec : (splF (es.take k)).2.2 with
      | true =>
        have hsu1 : splF (es.take (k + 1)) = ((splF (es.take k)).1, fapp (splF (es.take k)).2.1 ⟨kd, bl, ind, cm⟩, true) := by rw [hsu]; simp [splS, hsec]
        have HSU := Lib.hid hsu1
        have KF := Lib.hid (fapp_any _ w.heap.size rb _ _ eb _ ((HST.out.alloc (.cells #[.slice ca cl cc', .int .i64 kd, .int .i64 bl, .int .i64 ind] 36)).b) ca cl cc' kd bl ind cm HCM.out (by omega))
        have B0 := Lib.hid (Blk.new wr 36 #[.slice ca cl cc', .int .i64 kd, .int .i64 bl, .int .i64 ind])
        have hrb := HST.out.b.hr
        clear hsu hsu1
        go_wp2_with (first | (go_at_call 16; refine KF.out.mono ?_; rintro e w2 ⟨rfl, ⟨v2, r2, els2, hv2, hr2⟩, hfr2⟩; have B2 := Lib.hid (hfr2.blk B0.out (by rintro (h | h) <;> omega)); have y1 := B2.out.cell 1; simp at y1; have l2 := B2.out.lt; have HC2 := Lib.hid ((HST.out.alloc _).call hv2 hr2 hfr2); clear hv2 hr2 hfr2) | fail)
        go_wp2
        all_goals
          go_roundw
          case rel => exact ⟨k + 1, by omega, by go_num, by rw [HSU.out], ⟨_, _, _, rfl⟩, Lib.hid ⟨ea, v2, els2, r2, by rw [HSU.out]; exact HC2.out⟩⟩
          case measure => simp [intOf]; omega
      | false =>
        have hnil := splF_ahead (es.take k) hsec
        have HAW : Hid (∀ q, (Value.slice ax al ac).ownBlock = some q → q < wr.heap.size) := Lib.hid (fun q hq => by
          rcases HST.out.aown.2 with ⟨hv5, _⟩ | ⟨g, cap, cur, hav, hb, hg, rest⟩
          · rw [hv5] at hq; cases hq
          · rw [hav] at hq
            injection hq with hq
            subst hq
            exact (Array.getElem?_eq_some_iff.1 hg).1)
        have B0 := Lib.hid ((Blk.new wr 36 #[.slice ca cl cc', .int .i64 kd, .int .i64 bl, .int .i64 ind]).alloc (.cells #[.slice ca cl cc', .int .i64 kd, .int .i64 bl, .int .i64 ind] 36))
        by_cases hk1 : kd = 1
        · subst hk1
          have hsu1 : splF (es.take (k + 1)) = ((splF (es.take k)).1 ++ [⟨1, bl, ind, cm⟩], (splF (es.take k)).2.1, false) := by rw [hsu]; simp [splS, hsec]
          have HSU := Lib.hid hsu1
          clear hsu hsu1 hnil
          go_wp2_with (first | (with_reducible show wpList _ _ _ (⟨some 21, _, _, _, _, _⟩ :: _) _ _; refine of_hid ?_) | fail)
          refine Lib.hid ?_
          refine wpList_append_lies _ (o := ⟨some 21, _, _, _, _, _⟩) rfl (.tmp 18) (.tmp 20) 26 rfl 0 36 i0 _ 4 48 Tryf.underlying26 HI.out HZ0.out HZ1.out HZ2.out (by simp [Value.cells]) (by omega) (.slice ax al ac) ea.length (cellsF ea) rfl ((HST.out.alloc _).alloc _).aown _ 1 1 (El.cells ⟨.slice ca cl cc', 1, bl, ind⟩) rfl rfl (new_cellsN _ _ _ _ (by simp)) (by intro u hu; simp only [El.cells, List.mem_cons, List.not_mem_nil, or_false] at hu; rcases hu with rfl | rfl | rfl | rfl <;> rfl) (by omega) (by unfold maxLen; omega) (by omega) (Nat.zero_le _) _ rfl ?_
          intro g2 cap2 w2 hown hgrow hw2 hlt2
          have B2 := Lib.hid (B0.out.grown hgrow (by intro e; have h1 := HAW.out wr.heap.size e.symm; omega))
          have HA := Lib.hid (((HST.out.alloc (.cells #[.slice ca cl cc', .int .i64 1, .int .i64 bl, .int .i64 ind] 36)).alloc (.cells #[.slice ca cl cc', .int .i64 1, .int .i64 bl, .int .i64 ind] 36)).app (el := ⟨.slice ca cl cc', 1, bl, ind⟩) (e := ⟨1, bl, ind, cm⟩) ⟨rfl, rfl, rfl, HCM.out.keep (Agree.alloc _ _ _ fun b hb => by simp; omega)⟩ hown hgrow hw2)
          have y1 := B2.out.cell 1
          have y2 := B2.out.cell 2
          have y3 := B2.out.cell 3
          simp at y1 y2 y3
          have l2 := B2.out.lt
          have HWG := Lib.hid hw2
          clear hown hgrow hw2
          go_wp2
          go_roundw
          case rel => exact ⟨k + 1, by omega, by go_num, by rw [HSU.out], ⟨_, _, _, rfl⟩, Lib.hid ⟨_, _, eb, rb, by rw [HSU.out]; exact HA.out⟩⟩
          case measure => simp [intOf]; omega
        · have hk3 : (kd == 1) = false := by simpa using hk1
          have hk4 : (kd != 1) = true := by simpa using hk1
          by_cases hbl : 0 < bl
          · have hsu1 : splF (es.take (k + 1)) = ((splF (es.take k)).1 ++ [⟨kd, 0, ind, cm⟩], (splF (es.take k)).2.1 ++ [⟨0, bl, ind, none⟩], true) := by rw [hsu]; simp [splS, hsec, hk1, hbl]
            have HSU := Lib.hid hsu1
            have HNIL := Lib.hid hnil
            clear hsu hsu1 hnil
            go_wp2_with (first | (with_reducible show wpList _ _ _ (⟨some 21, _, _, _, _, _⟩ :: _) _ _; refine of_hid ?_) | fail)
            refine Lib.hid ?_
            refine wpList_append_lies _ (o := ⟨some 21, _, _, _, _, _⟩) rfl (.tmp 18) (.tmp 20) 26 rfl 0 36 i0 _ 4 48 Tryf.underlying26 HI.out HZ0.out HZ1.out HZ2.out (by simp [Value.cells]) (by omega) (.slice ax al ac) ea.length (cellsF ea) rfl ((HST.out.alloc _).alloc _).aown _ 1 1 (El.cells ⟨.slice ca cl cc', kd, bl, ind⟩) rfl rfl (new_cellsN _ _ _ _ (by simp)) (by intro u hu; simp only [El.cells, List.mem_cons, List.not_mem_nil, or_false] at hu; rcases hu with rfl | rfl | rfl | rfl <;> rfl) (by omega) (by unfold maxLen; omega) (by omega) (Nat.zero_le _) _ rfl ?_
            intro g2 cap2 w2 hown hgrow hw2 hlt2
            have B2 := Lib.hid (B0.out.grown hgrow (by intro e; have h1 := HAW.out wr.heap.size e.symm; omega))
            have HA := Lib.hid (((HST.out.alloc (.cells #[.slice ca cl cc', .int .i64 kd, .int .i64 bl, .int .i64 ind] 36)).alloc (.cells #[.slice ca cl cc', .int .i64 kd, .int .i64 bl, .int .i64 ind] 36)).app (el := ⟨.slice ca cl cc', kd, bl, ind⟩) (e := ⟨kd, bl, ind, cm⟩) ⟨rfl, rfl, rfl, HCM.out.keep (Agree.alloc _ _ _ fun b hb => by simp; omega)⟩ hown hgrow hw2)
            have y1 := B2.out.cell 1
            have y2 := B2.out.cell 2
            have y3 := B2.out.cell 3
            simp at y1 y2 y3
            have l2 := B2.out.lt
            have HWG := Lib.hid hw2
            clear hown hgrow hw2
            have HL1 := Lib.hid (HST.out.a.1)
            have hbn : bl' = 0 := by
              have h1 : eb.length = 0 := by rw [HST.out.b.ar.1, HNIL.out]; rfl
              rcases HST.out.b.own.2 with ⟨hv5, _⟩ | ⟨g, cap, cur, hav, hb, hg, rest⟩
              · injection hv5
              · injection hav with _ e2 _
                omega
            subst hbn
            have hat := HA.out.at (k := ea.length) (j := 2) (el := ⟨.slice ca cl cc', kd, bl, ind⟩) (by simp) (by omega)
            obtain ⟨z2, fz2⟩ := hat
            simp only [El.cells, List.getElem?_cons_succ, List.getElem?_cons_zero] at z2
            have hid1 : (((ea.length + 1 : Nat) : Int) - 1) = (ea.length : Int) := by omega
            have HP := Lib.hid (HA.out.put (k := ea.length) (j := 2) (el := ⟨.slice ca cl cc', kd, bl, ind⟩) (el' := ⟨.slice ca cl cc', kd, 0, ind⟩) (e' := ⟨kd, 0, ind, cm⟩) (u := .int .i64 0) (by simp) (by omega) rfl (by
              obtain ⟨q0, q1, q2, q3⟩ := HA.out.a.2 ea.length ⟨.slice ca cl cc', kd, bl, ind⟩ ⟨kd, bl, ind, cm⟩ (by simp) (by rw [HL1.out]; simp)
              exact ⟨rfl, rfl, rfl, q3⟩))
            have hg2 := HA.out.arow g2 rfl
            have hg2b : g2 ≠ wr.heap.size := by
              intro e
              rcases HWG.out with h5 | h5
              · have := HAW.out g2 h5; omega
              · simp at h5
                omega
            have B3 := Lib.hid (B2.out.far (p := ⟨g2, ea.length * 4 + 2, none⟩) (fun e => hg2b e.symm) (.int .i64 0))
            go_wp2_with (first | (with_reducible show wpList _ _ _ (⟨some 38, _, _, _, _, _⟩ :: _) _ _; refine of_hid ?_) | fail)
            rw [List.set_append_right _ _ (by omega), Nat.sub_self, HL1.out, List.set_append_right _ _ (by omega), Nat.sub_self, ← HL1.out] at HP
            simp only [List.set_cons_zero] at HP
            generalize w2.setCell ⟨g2, ea.length * 4 + 2, none⟩ (.int .i64 0) = w3 at *
            have c3 := HP.out.b.bp.cell 0
            simp at c3
            have f3 := HP.out.b.bp.free 0
            have pl3 := HP.out.b.bp.lt
            have q1 := B3.out.cell 1
            have q2 := B3.out.cell 2
            have q3 := B3.out.cell 3
            simp at q1 q2 q3
            have l3 := B3.out.lt
            have hebl : eb.length = 0 := by rw [HST.out.b.ar.1, HNIL.out]; rfl
            have hpb : w.heap.size ≠ wr.heap.size := by omega
            clear c0 f0 x0 x1 x2 x3 y1 y2 y3 z2 fz2
            refine Lib.hid ?_
            go_wp2_with (first | (with_reducible show wpList _ _ _ (⟨some 49, _, _, _, _, _⟩ :: _) _ _; refine of_hid ?_) | fail)
            refine Lib.hid ?_
            refine wpList_append_lies _ (o := ⟨some 49, _, _, _, _, _⟩) rfl (.tmp 42) (.tmp 48) 26 rfl 0 36 i0 _ 4 48 Tryf.underlying26 HI.out HZ0.out HZ1.out HZ2.out (by simp [Value.cells]) (by omega) (.slice bx 0 bc) eb.length (cellsF eb) rfl (HP.out.b.alloc _).own _ 1 1 (El.cells ⟨.slice none 0 0, 0, bl, ind⟩) rfl rfl (new_cellsN _ _ _ _ (by simp)) (by intro u hu; simp only [El.cells, List.mem_cons, List.not_mem_nil, or_false] at hu; rcases hu with rfl | rfl | rfl | rfl <;> rfl) (by omega) (by unfold maxLen; omega) (by omega) (Nat.zero_le _) _ rfl ?_
            intro g4 cap4 w4 hown4 hgrow4 hw4 hlt4
            have b4 := (HP.out.b.alloc (.cells #[.slice none 0 0, .int .i64 0, .int .i64 bl, .int .i64 ind] 36)).bp.grown hgrow4 (fun e => HP.out.b.ne w.heap.size e.symm rfl)
            have c4 := b4.cell 0
            simp at c4
            have f4 := b4.free 0
            have pl4 := b4.lt
            obtain ⟨⟨r', hv', hr'⟩, hfr'⟩ := (HP.out.b.alloc (.cells #[.slice none 0 0, .int .i64 0, .int .i64 bl, .int .i64 ind] 36)).app (el := ⟨.slice none 0 0, 0, bl, ind⟩) (e := ⟨0, bl, ind, none⟩) ⟨rfl, rfl, rfl, rfl⟩ hown4 hgrow4 hw4
            have HC4 := Lib.hid ((HP.out.alloc _).call hv' hr' hfr')
            clear hown4 hgrow4 hw4 b4 hv' hr' hfr' c3 f3 q1 q2 q3 hebl
            go_wp2
            go_roundw
            case rel => exact ⟨k + 1, by omega, by go_num, by rw [HSU.out], ⟨_, _, _, rfl⟩, Lib.hid ⟨_, _, _, r', by rw [HSU.out]; exact HC4.out⟩⟩
            case measure => simp [intOf]; omega
          · have hbl2 : decide (0 < bl) = false := by simpa using hbl
            have hsu1 : splF (es.take (k + 1)) = ((splF (es.take k)).1 ++ [⟨kd, bl, ind, cm⟩], (splF (es.take k)).2.1, true) := by rw [hsu]; simp [splS, hsec, hk1, hbl]
            have HSU := Lib.hid hsu1
            clear hsu hsu1 hnil
            go_wp2_with (first | (with_reducible show wpList _ _ _ (⟨some 21, _, _, _, _, _⟩ :: _) _ _; refine of_hid ?_) | fail)
            refine Lib.hid ?_
            refine wpList_append_lies _ (o := ⟨some 21, _, _, _, _, _⟩) rfl (.tmp 18) (.tmp 20) 26 rfl 0 36 i0 _ 4 48 Tryf.underlying26 HI.out HZ0.out HZ1.out HZ2.out (by simp [Value.cells]) (by omega) (.slice ax al ac) ea.length (cellsF ea) rfl ((HST.out.alloc _).alloc _).aown _ 1 1 (El.cells ⟨.slice ca cl cc', kd, bl, ind⟩) rfl rfl (new_cellsN _ _ _ _ (by simp)) (by intro u hu; simp only [El.cells, List.mem_cons, List.not_mem_nil, or_false] at hu; rcases hu with rfl | rfl | rfl | rfl <;> rfl) (by omega) (by unfold maxLen; omega) (by omega) (Nat.zero_le _) _ rfl ?_
            intro g2 cap2 w2 hown hgrow hw2 hlt2
            have B2 := Lib.hid (B0.out.grown hgrow (by intro e; have h1 := HAW.out wr.heap.size e.symm; omega))
            have HA := Lib.hid (((HST.out.alloc (.cells #[.slice ca cl cc', .int .i64 kd, .int .i64 bl, .int .i64 ind] 36)).alloc (.cells #[.slice ca cl cc', .int .i64 kd, .int .i64 bl, .int .i64 ind] 36)).app (el := ⟨.slice ca cl cc', kd, bl, ind⟩) (e := ⟨kd, bl, ind, cm⟩) ⟨rfl, rfl, rfl, HCM.out.keep (Agree.alloc _ _ _ fun b hb => by simp; omega)⟩ hown hgrow hw2)
            have y1 := B2.out.cell 1
            have y2 := B2.out.cell 2
            have y3 := B2.out.cell 3
            simp at y1 y2 y3
            have l2 := B2.out.lt
            have HWG := Lib.hid hw2
            clear hown hgrow hw2
            go_wp2
            go_roundw
            case rel => exact ⟨k + 1, by omega, by go_num, by rw [HSU.out], ⟨_, _, _, rfl⟩, Lib.hid ⟨_, _, eb, rb, by rw [HSU.out]; exact HA.out⟩⟩
            case measure => simp [intOf]; omega
    · obtain rfl : k = n := by omega
      have HF2 := Lib.hid (show es.take k = es from List.take_of_length_le (by rw [HN.out]; exact Nat.le_refl _))
      rw [HF2.out] at HST hl1
      clear hst
      go_wp2_with fail
      go_quiet (fail)
      go_wp2_with fail
      have hnn := HN.out
      have hh := HST.out.halves (by omega) (by omega)
      exact bodyPost_ret (v := .tuple #[.slice ax al ac, .slice bx bl' bc]) (by simp [results, Tryf.results15, go_sem]) rfl ⟨_, _, rfl, hh.1, hh.2, ⟨HST.out.bel.os, HST.out.bel.tape, HST.out.bel.output, HST.out.bel.size, HST.out.bel.block⟩⟩
end Go.Proofs.YtakhhnjnohnllaaFmt
