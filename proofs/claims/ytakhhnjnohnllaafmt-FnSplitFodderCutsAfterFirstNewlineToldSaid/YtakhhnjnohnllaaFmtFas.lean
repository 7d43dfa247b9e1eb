/- FodderAppend onto a row of the call's own: a bare line end is merged into the last element. -/
import Derived.Test.YtakhhnjnohnllaaFmtFap
namespace Go.Proofs.YtakhhnjnohnllaaFmt
open Go.RowKit
set_option linter.unusedVariables false

theorem cellsF_setL (es : List El) (i j : Nat) (e e' : El) (u : Value) (h : es[i]? = some e) (hj : j < 4) (hu : e'.cells = e.cells.set j u) : (cellsF es).set (i * 4 + j) u = cellsF (es.set i e') := by
  have := congrArg Array.toList (cellsF_set es i j e e' u h hj hu)
  simpa using this
theorem ElsAre.setAt {w : World} {S : Nat → Prop} {v : List El} {c : List LE} (h : ElsAre w S v c) {k : Nat} {el : El} {e : LE} (he : ElIs w S el e) : ElsAre w S (v.set k el) (c.set k e) := by
  refine ⟨by simp [h.1], fun i el' e' h1 h2 => ?_⟩
  rw [List.getElem?_set] at h1 h2
  by_cases hk : k = i
  · subst hk
    rw [if_pos rfl] at h1 h2
    split at h1
    · split at h2
      · obtain rfl := Option.some.inj h1
        obtain rfl := Option.some.inj h2
        exact he
      · cases h2
    · cases h1
  · rw [if_neg hk] at h1 h2
    exact h.2 i el' e' h1 h2
theorem Var.put {w : World} {p r g n cap : Nat} {S : Nat → Prop} {els : List El} {es : List LE} (h : Var w p r S (.slice (some ⟨g, 0, none⟩) n cap) els es) {k j : Nat} {el el' : El} {e' : LE} {u : Value} (hel : els[k]? = some el) (hj : j < 4) (hu : el'.cells = el.cells.set j u)
    (he : ElIs w S el' e') : Var (w.setCell ⟨g, k * 4 + j, none⟩ u) p r S (.slice (some ⟨g, 0, none⟩) n cap) (els.set k el') (es.set k e') := by
  have hgr : g = r := h.row g rfl
  have hgp : g ≠ p := h.ne g rfl
  have hag : Agree S w (w.setCell ⟨g, k * 4 + j, none⟩ u) := Agree.setCell S w _ _ fun hb => (h.oks g hb).2.2 hgr
  have hn : n = els.length := by
    rcases h.own.2 with ⟨hv, _⟩ | ⟨g', cap', cur, hv, _⟩
    · cases hv
    · injection hv
  subst hn
  refine ⟨h.bp.far (p := ⟨g, k * 4 + j, none⟩) (fun e => hgp e.symm) u, (h.ar.keep hag).setAt (he.keep hag), ?_, h.row, fun b hb => ⟨by have := (h.oks b hb).1; simpa using this, (h.oks b hb).2⟩, by have := h.hr; simpa using this⟩
  have := (h.own.stored (k * 4 + j) u).1
  rw [cellsF_setL els k j el el' u hel hj hu] at this
  rw [List.length_set]
  exact this
theorem own_cell {w : World} {p r g n cap : Nat} {S : Nat → Prop} {els : List El} {es : List LE} (h : Var w p r S (.slice (some ⟨g, 0, none⟩) n cap) els es) {k j : Nat} {el : El} (hel : els[k]? = some el) (hj : j < 4) : w.cell? ⟨g, k * 4 + j, none⟩ = el.cells[j]? ∧ w.frozen? ⟨g, k * 4 + j, none⟩ = false := by
  have hn : n = els.length := by
    rcases h.own.2 with ⟨hv, _⟩ | ⟨g', cap', cur, hv, _⟩
    · cases hv
    · injection hv
  subst hn
  have hk := (List.getElem?_eq_some_iff.1 hel).1
  exact ⟨by rw [h.own.cellAt _ (by omega), cellsF_at els k j el hel hj], h.own.frozenAt _⟩

theorem Fr.drewN {w w' : World} {X : Nat → Prop} (h : Fr w w' X) (n : Nat) : Fr w (w'.drewN n) X := ⟨h.os, h.tape, h.output, h.size, h.block⟩
theorem Var.drewN {w : World} {p r : Nat} {S : Nat → Prop} {v : Value} {els : List El} {es : List LE} (h : Var w p r S v els es) (n : Nat) : Var (w.drewN n) p r S v els es := ⟨h.bp, h.ar.keep (fun _ _ => rfl), h.own, h.row, h.oks, h.hr⟩
set_option maxRecDepth 100000 in
set_option maxHeartbeats 6400000 in
theorem fapp_bump (w : World) (p r : Nat) (S : Nat → Prop) (v : Value) (els : List El) (es : List LE) (h : Var w p r S v els es) (ca : Option Addr) (cl cc : Nat) (bl ind : Int) (c : Option (List ByteArray)) (hc : ComIs w S (.slice ca cl cc) c) (hl : es.length ≤ 16777000)
    (hb : isClean es = true) (hcl : cl = 0) :
    Calls Tryf.prog 16 #[.pointer (some ⟨p, 0, none⟩), .agg #[.slice ca cl cc, .int .i64 0, .int .i64 bl, .int .i64 ind]] w (Appd w p r S (bumpLast es bl ind)) := by
  subst hcl
  unfold Appd
  obtain ⟨i0, hi, hz0, hz1, hz2⟩ := info_parts infE
  have HI := Lib.hid hi
  have HZ0 := Lib.hid hz0
  have HZ1 := Lib.hid hz1
  have HZ2 := Lib.hid hz2
  have hel : els.length ≤ 16777000 := by rw [h.ar.1]; exact hl
  have c0 := h.bp.cell 0
  simp at c0
  have f0 := h.bp.free 0
  have pl := h.bp.lt
  have hva : ∃ a n cp, v = .slice a n cp := h.ownF.is_sliceV
  obtain ⟨va, vn, vc, rfl⟩ := hva
  have KCL := Lib.hid (clean_own (w.alloc (.cells #[.slice ca 0 cc, .int .i64 0, .int .i64 bl, .int .i64 ind] 36)) r S va vn vc es (h.alloc _).ownF (fun b hb => ((h.alloc _).oks b hb).1) (by omega))
  rw [hb] at KCL
  have hne : es ≠ [] := by rintro rfl; simp [isClean] at hb
  have hpos : 0 < es.length := List.length_pos_iff.2 hne
  obtain ⟨le, hle⟩ : ∃ le, es[es.length - 1]? = some le := ⟨es[es.length - 1]'(by omega), by simp⟩
  obtain ⟨el, hel2⟩ : ∃ el, els[es.length - 1]? = some el := ⟨els[es.length - 1]'(by rw [h.ar.1]; omega), by simp⟩
  have hbump : bumpLast es bl ind = es.set (es.length - 1) ⟨le.kind, wrap64 (le.blanks + bl), ind, le.com⟩ := by unfold bumpLast; rw [hle]
  have HBU := Lib.hid hbump
  obtain ⟨g, rfl, hg⟩ : ∃ g, va = some ⟨g, 0, none⟩ ∧ g = r := by
    rcases h.own.2 with ⟨_, h5⟩ | ⟨g, cap, cur, hv, _⟩
    · rw [h.ar.1] at h5; omega
    · injection hv with e1 e2 e3
      exact ⟨g, e1, h.row g (by rw [e1]; rfl)⟩
  obtain ⟨hvn, hgl⟩ : vn = es.length ∧ g < w.heap.size := by
    rcases h.own.2 with ⟨hv, _⟩ | ⟨g', cap, cur, hv, _⟩
    · cases hv
    · injection hv with e1 e2 e3
      exact ⟨by rw [e2, h.ar.1], (h.own.lt g rfl).2⟩
  have hgp : g ≠ p := h.ne g rfl
  have hk := h.ar.2 _ el le hel2 hle
  subst hg
  have HEL := Lib.hid hel2
  have HLE := Lib.hid hle
  have HK := Lib.hid hk
  have HV := Lib.hid h
  have HC := Lib.hid hc
  clear hi hz0 hz1 hz2 h hc hb hel2 hle hk hbump hne HI HZ0 HZ1 HZ2
  generalize hnn : es.length - 1 = n1 at *
  obtain rfl : vn = n1 + 1 := by omega
  have HNN := Lib.hid hnn
  clear hvn hnn
  go_enter Tryf.func16, Tryf.ntmps16
  go_wp2_with fail
  refine KCL.out.mono ?_
  rintro e w1 ⟨rfl, rfl⟩
  have pl1 : p < w.heap.size + 1 := by omega
  have gl1 : g < w.heap.size + 1 := by omega
  obtain ⟨x3, fx3⟩ := own_cell HV.out HEL.out (j := 3) (by omega)
  obtain ⟨x2, fx2⟩ := own_cell HV.out HEL.out (j := 2) (by omega)
  simp only [El.cells, List.getElem?_cons_succ, List.getElem?_cons_zero] at x2 x3
  have hn1 : n1 ≤ 16777000 := by have := HNN.out; omega
  have hi : (((n1 + 1 : Nat) : Int) - 1) = (n1 : Int) := by omega
  go_wp2_with fail
  go_quiet (fail)
  go_wp2_with fail
  have V0 := Lib.hid ((HV.out.alloc (.cells #[.slice ca 0 cc, .int .i64 0, .int .i64 bl, .int .i64 ind] 36)).drewN nq)
  have F0 := Lib.hid (((Fr.refl w (fun b => b = p ∨ b = g)).alloc (.cells #[.slice ca 0 cc, .int .i64 0, .int .i64 bl, .int .i64 ind] 36)).drewN nq)
  have B0 := Lib.hid ((Blk.new w 36 #[.slice ca 0 cc, .int .i64 0, .int .i64 bl, .int .i64 ind]).drewN nq)
  have hgs : g ≠ w.heap.size := by omega
  generalize (w.alloc (.cells #[.slice ca 0 cc, .int .i64 0, .int .i64 bl, .int .i64 ind] 36)).drewN nq = W at *
  obtain ⟨k0, k1, k2, k3⟩ := HK.out
  have V1 := Lib.hid (V0.out.put (j := 3) (el' := ⟨el.com, el.kind, el.blanks, ind⟩) (e' := ⟨le.kind, le.blanks, ind, le.com⟩) (u := .int .i64 ind) HEL.out (by omega) rfl (by
    obtain ⟨y0, y1, y2, y3⟩ := V0.out.ar.2 _ el le HEL.out HLE.out
    exact ⟨y0, y1, rfl, y3⟩))
  have F1 := Lib.hid (F0.out.setCell ⟨g, n1 * 4 + 3, none⟩ (.int .i64 ind) (.inl (.inr rfl)))
  have B1 := Lib.hid (B0.out.far (p := ⟨g, n1 * 4 + 3, none⟩) (fun e => hgs e.symm) (.int .i64 ind))
  generalize W.setCell ⟨g, n1 * 4 + 3, none⟩ (.int .i64 ind) = W1 at *
  have hel1 : (els.set n1 ⟨el.com, el.kind, el.blanks, ind⟩)[n1]? = some ⟨el.com, el.kind, el.blanks, ind⟩ := by
    rw [List.getElem?_set_self (List.getElem?_eq_some_iff.1 HEL.out).1]
  have HEL1 := Lib.hid hel1
  obtain ⟨y2, fy2⟩ := own_cell V1.out hel1 (j := 2) (by omega)
  simp only [El.cells, List.getElem?_cons_succ, List.getElem?_cons_zero] at y2
  have bl2 := B1.out.cell 2
  simp at bl2
  have bll := B1.out.lt
  have gll := (V1.out.own.lt g rfl).2
  clear x2 x3 fx2 fx3 c0 f0 KCL V0 F0 B0 hel1
  refine wp_region_tail 9 (by kernel_rfl) (by kernel_rfl) ?_
  repeat still_step
  refine wpStill_nil ?_
  go_wp2
  go_end0
  rw [HBU.out]
  have V2 := V1.out.put (j := 2) (el' := ⟨el.com, el.kind, wrap64 (el.blanks + bl), ind⟩) (e' := ⟨le.kind, wrap64 (le.blanks + bl), ind, le.com⟩) (u := .int .i64 (wrap64 (el.blanks + bl))) HEL1.out (by omega) rfl (by
    obtain ⟨y0, y1, y2, y3⟩ := V1.out.ar.2 _ _ _ HEL1.out (by rw [List.getElem?_set_self (List.getElem?_eq_some_iff.1 HLE.out).1])
    exact ⟨y0, by rw [k1], rfl, y3⟩)
  rw [List.set_set, List.set_set] at V2
  rw [k1] at V2
  exact ⟨rfl, ⟨_, _, _, V2.drew, .inl rfl⟩, (F1.out.setCell _ _ (.inl (.inr rfl))).drew⟩
end Go.Proofs.YtakhhnjnohnllaaFmt
