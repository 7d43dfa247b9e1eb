/- FodderAppend onto a row of the call's own: a line end that has a comment becomes a paragraph. -/
import Derived.Test.YtakhhnjnohnllaaFmtFap
namespace Go.Proofs.YtakhhnjnohnllaaFmt
open Go.RowKit
set_option linter.unusedVariables false

set_option maxRecDepth 100000 in
set_option maxHeartbeats 6400000 in
theorem fapp_par (w : World) (p r : Nat) (S : Nat → Prop) (v : Value) (els : List El) (es : List LE) (h : Var w p r S v els es) (ca : Option Addr) (cl cc : Nat) (bl ind : Int) (c : Option (List ByteArray)) (hc : ComIs w S (.slice ca cl cc) c) (hl : es.length ≤ 16777000)
    (hb : isClean es = true) (hcl : 0 < cl) :
    Calls Tryf.prog 16 #[.pointer (some ⟨p, 0, none⟩), .agg #[.slice ca cl cc, .int .i64 0, .int .i64 bl, .int .i64 ind]] w (Appd w p r S (es ++ [⟨2, bl, ind, c⟩])) := by
  unfold Appd
  obtain ⟨i0, hi, hz0, hz1, hz2⟩ := info_parts infE
  have HI := Lib.hid hi
  have HZ0 := Lib.hid hz0
  have HZ1 := Lib.hid hz1
  have HZ2 := Lib.hid hz2
  have hel : els.length ≤ 16777000 := by rw [h.ar.1]; exact hl
  have c0 := h.bp.cell 0
  simp at c0
  have f0 := h.bp.free 0
  have pl := h.bp.lt
  have hva : ∃ a n cp, v = .slice a n cp := h.ownF.is_sliceV
  obtain ⟨va, vn, vc, rfl⟩ := hva
  have KCL := Lib.hid (clean_own (w.alloc (.cells #[.slice ca cl cc, .int .i64 0, .int .i64 bl, .int .i64 ind] 36)) r S va vn vc es (h.alloc _).ownF (fun b hb => ((h.alloc _).oks b hb).1) (by omega))
  rw [hb] at KCL
  have HV := Lib.hid h
  have HC := Lib.hid hc
  clear hi hz0 hz1 hz2 h hc hb
  go_enter Tryf.func16, Tryf.ntmps16
  go_wp2_with fail
  refine KCL.out.mono ?_
  rintro e w1 ⟨rfl, rfl⟩
  have hcl' : (0 : Int) < cl := by omega
  have pl1 : p < w.heap.size + 1 := by omega
  have pl2 : p < w.heap.size + 1 + 1 := by omega
  have pl3 : p < w.heap.size + 1 + 1 + 1 := by omega
  go_wp2_with fail
  go_region_law (first | (refine step_append_lies _ rfl (.tmp 21) (.tmp 29) 26 rfl 0 36 i0 _ 4 48 Tryf.underlying26 HI.out HZ0.out HZ1.out HZ2.out (by simp [Value.cells]) (by omega) (.slice va vn vc) els.length (cellsF els) rfl (((HV.out.alloc _).alloc _).alloc _).own _ 1 1 (El.cells ⟨.slice ca cl cc, 2, bl, ind⟩) rfl rfl (new_cellsN _ _ _ _ (by simp)) (by intro u hu; simp only [El.cells, List.mem_cons, List.not_mem_nil, or_false] at hu; rcases hu with rfl | rfl | rfl | rfl <;> rfl) (by omega) (by unfold maxLen; omega) (by omega) (Nat.zero_le _) _ rfl ?_; intro g2 cap2 w2 hown hgrow hw2 hlt2; have b2 := (((HV.out.alloc _).alloc _).alloc _).drew.bp.grown hgrow (fun e => HV.out.ne p e.symm rfl); have c2 := b2.cell 0; have f2 := b2.free 0; simp at c2) | (go_simp; go_at_call 18; refine (make_par _ ca cl cc bl ind hcl).mono ?_; rintro e w9 ⟨rfl, rfl⟩))
  all_goals
    have HA := Lib.hid ((((HV.out.alloc (.cells #[.slice ca cl cc, .int .i64 0, .int .i64 bl, .int .i64 ind] 36)).alloc (.cells #[.slice ca cl cc, .int .i64 2, .int .i64 bl, .int .i64 ind] 36)).alloc (.cells #[.slice ca cl cc, .int .i64 2, .int .i64 bl, .int .i64 ind] 36)).drew.app (el := ⟨.slice ca cl cc, 2, bl, ind⟩) (e := ⟨2, bl, ind, c⟩) ⟨rfl, rfl, rfl, HC.out.keep (((((Agree.alloc S w _ fun b hb => (HV.out.oks b hb).1)).trans (Agree.alloc S _ _ fun b hb => by have := (HV.out.oks b hb).1; simp; omega)).trans (Agree.alloc S _ _ fun b hb => by have := (HV.out.oks b hb).1; simp; omega)).trans (Agree.drew S _))⟩ hown hgrow hw2)
    clear hown hgrow hw2 c2 f2 b2
    go_wp2
    go_end0
    obtain ⟨⟨r', hv', hr'⟩, hfr⟩ := HA.out
    refine ⟨rfl, ⟨_, r', _, hv', ?_⟩, ?_⟩
    · rcases hr' with h | h
      · exact .inl h
      · right
        have h9 : (((w.alloc (.cells #[.slice ca cl cc, .int .i64 0, .int .i64 bl, .int .i64 ind] 36)).alloc (.cells #[.slice ca cl cc, .int .i64 2, .int .i64 bl, .int .i64 ind] 36)).alloc (.cells #[.slice ca cl cc, .int .i64 2, .int .i64 bl, .int .i64 ind] 36)).heap.size ≤ r' := h
        simp at h9
        omega
    · exact ((((Fr.refl w _).alloc _).alloc _).alloc _).drew.trans hfr
end Go.Proofs.YtakhhnjnohnllaaFmt
