/- FodderAppend onto a row of the call's own: a paragraph behind no clean end gets a line end ahead. -/
import Derived.Test.YtakhhnjnohnllaaFmtFap
namespace Go.Proofs.YtakhhnjnohnllaaFmt
open Go.RowKit
set_option linter.unusedVariables false

set_option maxRecDepth 100000 in
set_option maxHeartbeats 6400000 in
theorem fapp_two (w : World) (p r : Nat) (S : Nat → Prop) (v : Value) (els : List El) (es : List LE) (h : Var w p r S v els es) (ca : Option Addr) (cl cc : Nat) (bl ind : Int) (c : Option (List ByteArray)) (hc : ComIs w S (.slice ca cl cc) c) (hl : es.length ≤ 16777000)
    (hb : isClean es = false) :
    Calls Tryf.prog 16 #[.pointer (some ⟨p, 0, none⟩), .agg #[.slice ca cl cc, .int .i64 2, .int .i64 bl, .int .i64 ind]] w (Appd w p r S ((es ++ [⟨0, 0, ind, some []⟩]) ++ [⟨2, bl, ind, c⟩])) := by
  unfold Appd
  obtain ⟨i0, hi, hz0, hz1, hz2⟩ := info_parts infE
  have HI := Lib.hid hi
  have HZ0 := Lib.hid hz0
  have HZ1 := Lib.hid hz1
  have HZ2 := Lib.hid hz2
  have hel : els.length ≤ 16777000 := by rw [h.ar.1]; exact hl
  have c0 := h.bp.cell 0
  simp at c0
  have f0 := h.bp.free 0
  have pl := h.bp.lt
  have hva : ∃ a n cp, v = .slice a n cp := h.ownF.is_sliceV
  obtain ⟨va, vn, vc, rfl⟩ := hva
  have KCL := Lib.hid (clean_own (w.alloc (.cells #[.slice ca cl cc, .int .i64 2, .int .i64 bl, .int .i64 ind] 36)) r S va vn vc es (h.alloc _).ownF (fun b hb => ((h.alloc _).oks b hb).1) (by omega))
  rw [hb] at KCL
  have HV := Lib.hid h
  have HC := Lib.hid hc
  clear hi hz0 hz1 hz2 h hc hb
  go_enter Tryf.func16, Tryf.ntmps16
  go_wp2_with fail
  refine KCL.out.mono ?_
  rintro e w1 ⟨rfl, rfl⟩
  have pl1 : p < w.heap.size + 1 := by omega
  have pl2 : p < w.heap.size + 1 + 1 := by omega
  have pl3 : p < w.heap.size + 1 + 1 + 1 := by omega
  have pl4 : p < w.heap.size + 1 + 1 + 1 + 1 := by omega
  go_wp2_with fail
  refine KCL.out.mono ?_
  rintro e w1 ⟨rfl, rfl⟩
  go_wp2_with fail
  go_region_law (first | (refine step_append_lies _ rfl (.tmp 68) (.tmp 73) 26 rfl 0 36 i0 _ 4 48 Tryf.underlying26 HI.out HZ0.out HZ1.out HZ2.out (by simp [Value.cells]) (by omega) (.slice va vn vc) els.length (cellsF els) rfl ((((HV.out.alloc _).alloc _).alloc _).alloc _).own _ 1 1 (El.cells ⟨.slice (some ⟨w.heap.size + 1, 0, none⟩) 0 0, 0, 0, ind⟩) rfl rfl (new_cellsN _ _ _ _ (by simp)) (by intro u hu; simp only [El.cells, List.mem_cons, List.not_mem_nil, or_false] at hu; rcases hu with rfl | rfl | rfl | rfl <;> rfl) (by omega) (by unfold maxLen; omega) (by omega) (Nat.zero_le _) _ rfl ?_; intro g2 cap2 w2 hown hgrow hw2 hlt2; have b2 := ((((HV.out.alloc _).alloc _).alloc _).alloc _).drew.bp.grown hgrow (fun e => HV.out.ne p e.symm rfl); have c2 := b2.cell 0; have f2 := b2.free 0; simp at c2) | (go_simp; go_at_call 18; refine (make_le _ _ 0 0 0 ind (by omega)).mono ?_; rintro e w9 ⟨rfl, rfl⟩))
  all_goals
    have HA := Lib.hid (((((HV.out.alloc (.cells #[.slice ca cl cc, .int .i64 2, .int .i64 bl, .int .i64 ind] 36)).alloc (.cells #[] 9)).alloc (.cells #[.slice (some ⟨w.heap.size + 1, 0, none⟩) 0 0, .int .i64 0, .int .i64 0, .int .i64 ind] 36)).alloc (.cells #[.slice (some ⟨w.heap.size + 1, 0, none⟩) 0 0, .int .i64 0, .int .i64 0, .int .i64 ind] 36)).drew.app (el := ⟨.slice (some ⟨w.heap.size + 1, 0, none⟩) 0 0, 0, 0, ind⟩) (e := ⟨0, 0, ind, some []⟩) ⟨rfl, rfl, rfl, ⟨_, _, rfl, by simp, .inl rfl⟩⟩ hown hgrow hw2)
    have B0 := Lib.hid (((((Blk.new w 36 #[.slice ca cl cc, .int .i64 2, .int .i64 bl, .int .i64 ind]).alloc (.cells #[] 9)).alloc (.cells #[.slice (some ⟨w.heap.size + 1, 0, none⟩) 0 0, .int .i64 0, .int .i64 0, .int .i64 ind] 36)).alloc (.cells #[.slice (some ⟨w.heap.size + 1, 0, none⟩) 0 0, .int .i64 0, .int .i64 0, .int .i64 ind] 36)).drew)
    have AG0 := Lib.hid (((((Agree.alloc S w (.cells #[.slice ca cl cc, .int .i64 2, .int .i64 bl, .int .i64 ind] 36) fun b hb => (HV.out.oks b hb).1).trans (Agree.alloc S _ (.cells #[] 9) fun b hb => by have := (HV.out.oks b hb).1; simp; omega)).trans (Agree.alloc S _ (.cells #[.slice (some ⟨w.heap.size + 1, 0, none⟩) 0 0, .int .i64 0, .int .i64 0, .int .i64 ind] 36) fun b hb => by have := (HV.out.oks b hb).1; simp; omega)).trans (Agree.alloc S _ (.cells #[.slice (some ⟨w.heap.size + 1, 0, none⟩) 0 0, .int .i64 0, .int .i64 0, .int .i64 ind] 36) fun b hb => by have := (HV.out.oks b hb).1; simp; omega)).trans (Agree.drew S _))
    have FR0 := Lib.hid (((((Fr.refl w (fun b => b = p ∨ b = r)).alloc (.cells #[.slice ca cl cc, .int .i64 2, .int .i64 bl, .int .i64 ind] 36)).alloc (.cells #[] 9)).alloc (.cells #[.slice (some ⟨w.heap.size + 1, 0, none⟩) 0 0, .int .i64 0, .int .i64 0, .int .i64 ind] 36)).alloc (.cells #[.slice (some ⟨w.heap.size + 1, 0, none⟩) 0 0, .int .i64 0, .int .i64 0, .int .i64 ind] 36)).drew
    have hrl := HV.out.hr
    have hsz : (((((w.alloc (.cells #[.slice ca cl cc, .int .i64 2, .int .i64 bl, .int .i64 ind] 36)).alloc (.cells #[] 9)).alloc (.cells #[.slice (some ⟨w.heap.size + 1, 0, none⟩) 0 0, .int .i64 0, .int .i64 0, .int .i64 ind] 36)).alloc (.cells #[.slice (some ⟨w.heap.size + 1, 0, none⟩) 0 0, .int .i64 0, .int .i64 0, .int .i64 ind] 36)).drew).heap.size = w.heap.size + 1 + 1 + 1 + 1 := by show ((((w.alloc (.cells #[.slice ca cl cc, .int .i64 2, .int .i64 bl, .int .i64 ind] 36)).alloc (.cells #[] 9)).alloc (.cells #[.slice (some ⟨w.heap.size + 1, 0, none⟩) 0 0, .int .i64 0, .int .i64 0, .int .i64 ind] 36)).alloc (.cells #[.slice (some ⟨w.heap.size + 1, 0, none⟩) 0 0, .int .i64 0, .int .i64 0, .int .i64 ind] 36)).heap.size = _; simp
    clear hown hgrow hw2 c2 f2 b2
    generalize ((((w.alloc (.cells #[.slice ca cl cc, .int .i64 2, .int .i64 bl, .int .i64 ind] 36)).alloc (.cells #[] 9)).alloc (.cells #[.slice (some ⟨w.heap.size + 1, 0, none⟩) 0 0, .int .i64 0, .int .i64 0, .int .i64 ind] 36)).alloc (.cells #[.slice (some ⟨w.heap.size + 1, 0, none⟩) 0 0, .int .i64 0, .int .i64 0, .int .i64 ind] 36)).drew = W at *
    generalize w2.setCell ⟨p, 0, none⟩ (.slice (some ⟨g2, 0, none⟩) (els.length + 1) cap2) = W3 at *
    obtain ⟨⟨r3, hv3, hr3⟩, hfr3⟩ := HA.out
    have HV3 := Lib.hid hv3
    have HFR3 := Lib.hid hfr3
    have hR3 := Lib.hid hr3
    have B3 := Lib.hid (hfr3.blk B0.out (by rintro (h | h) <;> omega))
    have x0 := B3.out.cell 0
    have x1 := B3.out.cell 1
    have x2 := B3.out.cell 2
    have x3 := B3.out.cell 3
    have c3 := hv3.bp.cell 0
    simp at x0 x1 x2 x3 c3
    have f3 := hv3.bp.free 0
    have pl5 := hv3.bp.lt
    have bl5 := B3.out.lt
    have HC3 := Lib.hid ((HC.out.keep AG0.out).keep (hfr3.agree fun b hb => ⟨by have := (HV.out.oks b hb).1; omega, by have := HV.out.oks b hb; rintro (h | h); exact this.2.1 h; exact this.2.2 h⟩))
    have hel3 : (els ++ [(⟨.slice (some ⟨w.heap.size + 1, 0, none⟩) 0 0, 0, 0, ind⟩ : El)]).length ≤ 16777001 := by simp; omega
    clear hv3 hr3 hfr3 HA c0 f0 KCL
    generalize els ++ [(⟨.slice (some ⟨w.heap.size + 1, 0, none⟩) 0 0, 0, 0, ind⟩ : El)] = els3 at *
    go_wp2_with fail
    go_region_law (first | (refine step_append_lies _ rfl (.tmp 79) (.tmp 81) 26 rfl 0 36 i0 _ 4 48 Tryf.underlying26 HI.out HZ0.out HZ1.out HZ2.out (by simp [Value.cells]) (by omega) (.slice (some ⟨g2, 0, none⟩) (els.length + 1) cap2) els3.length (cellsF els3) rfl (HV3.out.alloc _).own _ 1 1 (El.cells ⟨.slice ca cl cc, 2, bl, ind⟩) rfl rfl (new_cellsN _ _ _ _ (by simp)) (by intro u hu; simp only [El.cells, List.mem_cons, List.not_mem_nil, or_false] at hu; rcases hu with rfl | rfl | rfl | rfl <;> rfl) (by omega) (by unfold maxLen; omega) (by omega) (Nat.zero_le _) _ rfl ?_; intro g4 cap4 w4 hown4 hgrow4 hw4 hlt4; have b4 := (HV3.out.alloc _).drew.bp.grown hgrow4 (fun e => HV3.out.ne p e.symm rfl); have c4 := b4.cell 0; have f4 := b4.free 0; simp at c4))
    all_goals
      have HA4 := Lib.hid ((HV3.out.alloc (.cells #[.slice ca cl cc, .int .i64 2, .int .i64 bl, .int .i64 ind] 36)).drew.app (el := ⟨.slice ca cl cc, 2, bl, ind⟩) (e := ⟨2, bl, ind, c⟩) ⟨rfl, rfl, rfl, (HC3.out.keep (Agree.alloc S W3 _ fun b hb => (HV3.out.oks b hb).1)).keep (Agree.drew S _)⟩ hown4 hgrow4 hw4)
      clear hown4 hgrow4 hw4 c4 f4 b4
      go_wp2
      go_end0
      obtain ⟨⟨r', hv', hr'⟩, hfr⟩ := HA4.out
      have hs3 := HFR3.out.size
      refine ⟨rfl, ⟨_, r', _, hv', ?_⟩, ?_⟩
      · rcases hr' with h | h
        · rcases hR3.out with h2 | h2
          · left
            omega
          · right
            omega
        · right
          have h9 : (W3.alloc (.cells #[.slice ca cl cc, .int .i64 2, .int .i64 bl, .int .i64 ind] 36)).heap.size ≤ r' := h
          simp at h9
          omega
      · refine (FR0.out.trans HFR3.out).step (((Fr.refl W3 _).alloc _).drew.trans hfr) fun b hb h => ?_
        rcases h with h | h
        · exact .inl h
        · rcases hR3.out with h2 | h2
          · exact .inr (by omega)
          · omega
end Go.Proofs.YtakhhnjnohnllaaFmt
