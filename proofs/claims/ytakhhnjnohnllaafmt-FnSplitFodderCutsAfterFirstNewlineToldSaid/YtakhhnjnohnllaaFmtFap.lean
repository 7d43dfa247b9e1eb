/- FodderAppend onto a row of the call's own. -/
import Derived.Test.YtakhhnjnohnllaaFmtCle
namespace Go.Proofs.YtakhhnjnohnllaaFmt
open Go.RowKit
set_option linter.unusedVariables false

/-- A variable at block p that holds a slice whose row (block r) is the call's own. -/
structure Var (w : World) (p r : Nat) (S : Nat → Prop) (v : Value) (els : List El) (es : List LE) : Prop where
  bp : Blk w p 26 #[v]
  ar : ElsAre w S els es
  own : w.ownsRow 0 36 4 v els.length (cellsF els)
  row : ∀ q, v.ownBlock = some q → q = r
  oks : ∀ b, S b → b < w.heap.size ∧ b ≠ p ∧ b ≠ r
  hr : r < w.heap.size
theorem Var.ne {w : World} {p r : Nat} {S : Nat → Prop} {v : Value} {els : List El} {es : List LE} (h : Var w p r S v els es) : ∀ q, v.ownBlock = some q → q ≠ p := by
  rintro q hq rfl
  rcases h.own.2 with ⟨rfl, _⟩ | ⟨g, cap, cur, rfl, _, hh, _⟩
  · simp [Value.ownBlock] at hq
  · have : g = q := by simpa [Value.ownBlock] using hq
    subst this
    have := h.bp
    rw [Blk, hh] at this
    injection this with this
    injection this with _ h5
    exact absurd h5 (by decide)
theorem Var.alloc {w : World} {p r : Nat} {S : Nat → Prop} {v : Value} {els : List El} {es : List LE} (h : Var w p r S v els es) (o : Obj) : Var (w.alloc o) p r S v els es :=
  ⟨h.bp.alloc o, h.ar.keep (Agree.alloc S w o fun b hb => (h.oks b hb).1), h.own.alloc o, h.row, fun b hb => ⟨by have := (h.oks b hb).1; simp; omega, (h.oks b hb).2⟩, by have := h.hr; simp; omega⟩
theorem Var.drew {w : World} {p r : Nat} {S : Nat → Prop} {v : Value} {els : List El} {es : List LE} (h : Var w p r S v els es) : Var w.drew p r S v els es := ⟨h.bp, h.ar.keep (Agree.drew S w), h.own, h.row, h.oks, h.hr⟩
theorem Var.fr {w w' : World} {p r : Nat} {S X : Nat → Prop} {v : Value} {els : List El} {es : List LE} (h : Var w p r S v els es) (fr : Fr w w' X) (hp : ¬ X p) (hr : ¬ X r) (hS : ∀ b, S b → ¬ X b) : Var w' p r S v els es := by
  refine ⟨fr.blk h.bp hp, h.ar.keep (fr.agree fun b hb => ⟨(h.oks b hb).1, hS b hb⟩), ⟨h.own.1, ?_⟩, h.row, fun b hb => ⟨Nat.lt_of_lt_of_le (h.oks b hb).1 fr.size, (h.oks b hb).2⟩, Nat.lt_of_lt_of_le h.hr fr.size⟩
  rcases h.own.2 with h5 | ⟨g, cap, cur, hv, hb, hg, rest⟩
  · exact .inl h5
  · have hgr : g = r := h.row g (by rw [hv]; rfl)
    exact .inr ⟨g, cap, cur, hv, hb, (fr.block g (Array.getElem?_eq_some_iff.1 hg).1 (by rw [hgr]; exact hr)).trans hg, rest⟩
theorem Var.ownF {w : World} {p r : Nat} {S : Nat → Prop} {v : Value} {els : List El} {es : List LE} (h : Var w p r S v els es) : OwnF w r S v es := ⟨els, h.ar, h.own, h.row⟩
/-- What an append of one element leaves, its slice stored back. -/
theorem Var.app {w w2 : World} {p r g cap : Nat} {S : Nat → Prop} {v : Value} {els : List El} {es : List LE} {el : El} {e : LE} (h : Var w p r S v els es) (he : ElIs w S el e)
    (ho : w2.ownsRow 0 36 4 (.slice (some ⟨g, 0, none⟩) (els.length + 1) cap) (els.length + 1) (cellsF els ++ el.cells)) (hg : w.grownBy w2 v.ownBlock) (hw : v.ownBlock = some g ∨ g = w.heap.size) :
    (∃ r', Var (w2.setCell ⟨p, 0, none⟩ (.slice (some ⟨g, 0, none⟩) (els.length + 1) cap)) p r' S (.slice (some ⟨g, 0, none⟩) (els.length + 1) cap) (els ++ [el]) (es ++ [e]) ∧ (r' = r ∨ w.heap.size ≤ r')) ∧
    Fr w (w2.setCell ⟨p, 0, none⟩ (.slice (some ⟨g, 0, none⟩) (els.length + 1) cap)) (fun b => b = p ∨ b = r) := by
  have hpl := h.bp.lt
  have fr : Fr w w2 (fun b => b = p ∨ b = r) := (Fr.of_grown hg).sub fun b hb => .inr (h.row b hb.symm)
  have fr2 : Fr w (w2.setCell ⟨p, 0, none⟩ (.slice (some ⟨g, 0, none⟩) (els.length + 1) cap)) (fun b => b = p ∨ b = r) := fr.setCell ⟨p, 0, none⟩ _ (.inl (.inl rfl))
  have hgp : g ≠ p := by
    rcases hw with h1 | h1
    · exact h.ne g h1
    · omega
  have hag : Agree S w (w2.setCell ⟨p, 0, none⟩ (.slice (some ⟨g, 0, none⟩) (els.length + 1) cap)) := fr2.agree fun b hb => ⟨(h.oks b hb).1, by rintro (h1 | h1); exact (h.oks b hb).2.1 h1; exact (h.oks b hb).2.2 h1⟩
  refine ⟨⟨g, ⟨?_, ElsAre.snoc (h.ar.keep hag) (he.keep hag), ?_, ?_, ?_, by have := (ho.lt g rfl).2; simpa using this⟩, ?_⟩, fr2⟩
  · have b1 : Blk w2 p 26 #[v] := h.bp.grown hg (fun e => h.ne p e.symm rfl)
    have := b1.set 0 (.slice (some ⟨g, 0, none⟩) (els.length + 1) cap)
    simpa using this
  · have e1 : cellsF (els ++ [el]) = cellsF els ++ el.cells := by rw [cellsF_append]; simp [cellsF]
    rw [e1, List.length_append]
    exact own_set ho _ _ fun q hq => by
      injection hq with hq
      rw [← hq]
      exact hgp
  · intro q hq
    injection hq with hq
    exact hq.symm
  · intro b hb
    refine ⟨Nat.lt_of_lt_of_le (h.oks b hb).1 fr2.size, (h.oks b hb).2.1, ?_⟩
    rcases hw with h1 | h1
    · rw [h.row g h1]
      exact (h.oks b hb).2.2
    · have := (h.oks b hb).1
      omega
  · rcases hw with h1 | h1
    · exact .inl (h.row g h1)
    · exact .inr (by omega)

def Appd (w : World) (p r : Nat) (S : Nat → Prop) (es : List LE) (e : Ending) (w' : World) : Prop :=
  e = .returned (.tuple #[]) ∧ (∃ v r' els, Var w' p r' S v els es ∧ (r' = r ∨ w.heap.size ≤ r')) ∧ Fr w w' (fun b => b = p ∨ b = r)

set_option maxRecDepth 100000 in
set_option maxHeartbeats 6400000 in
theorem fapp_plain (w : World) (p r : Nat) (S : Nat → Prop) (v : Value) (els : List El) (es : List LE) (h : Var w p r S v els es) (ca : Option Addr) (cl cc : Nat) (kd bl ind : Int) (c : Option (List ByteArray)) (hc : ComIs w S (.slice ca cl cc) c) (hl : es.length ≤ 16777000)
    (b : Bool) (hb : isClean es = b) (hk : (b = true ∧ kd ≠ 0) ∨ (b = false ∧ kd ≠ 2)) :
    Calls Tryf.prog 16 #[.pointer (some ⟨p, 0, none⟩), .agg #[.slice ca cl cc, .int .i64 kd, .int .i64 bl, .int .i64 ind]] w (Appd w p r S (es ++ [⟨kd, bl, ind, c⟩])) := by
  unfold Appd
  obtain ⟨i0, hi, hz0, hz1, hz2⟩ := info_parts infE
  have HI := Lib.hid hi
  have HZ0 := Lib.hid hz0
  have HZ1 := Lib.hid hz1
  have HZ2 := Lib.hid hz2
  have hel : els.length ≤ 16777000 := by rw [h.ar.1]; exact hl
  have c0 := h.bp.cell 0
  simp at c0
  have f0 := h.bp.free 0
  have pl := h.bp.lt
  have hva : ∃ a n cp, v = .slice a n cp := h.ownF.is_sliceV
  obtain ⟨va, vn, vc, rfl⟩ := hva
  have KCL := Lib.hid (clean_own (w.alloc (.cells #[.slice ca cl cc, .int .i64 kd, .int .i64 bl, .int .i64 ind] 36)) r S va vn vc es (h.alloc _).ownF (fun b hb => ((h.alloc _).oks b hb).1) (by omega))
  rw [hb] at KCL
  have HV := Lib.hid h
  have HC := Lib.hid hc
  clear hi hz0 hz1 hz2 h hc hb
  rcases hk with ⟨rfl, hk⟩ | ⟨rfl, hk⟩
  · skip
    go_enter Tryf.func16, Tryf.ntmps16
    go_wp2_with fail
    refine KCL.out.mono ?_
    rintro e w1 ⟨rfl, rfl⟩
    go_wp2_with fail
    refine KCL.out.mono ?_
    rintro e w1 ⟨rfl, rfl⟩
    go_wp2_with fail
    go_region_law (first | (refine step_append_lies _ rfl (.tmp 79) (.tmp 81) 26 rfl 0 36 i0 _ 4 48 Tryf.underlying26 HI.out HZ0.out HZ1.out HZ2.out (by simp [Value.cells]) (by omega) (.slice va vn vc) els.length (cellsF els) rfl ((HV.out.alloc _).alloc _).own _ 1 1 (El.cells ⟨.slice ca cl cc, kd, bl, ind⟩) rfl rfl (new_cellsN _ _ _ _ (by simp)) (by intro u hu; simp only [El.cells, List.mem_cons, List.not_mem_nil, or_false] at hu; rcases hu with rfl | rfl | rfl | rfl <;> rfl) (by omega) (by unfold maxLen; omega) (by omega) (Nat.zero_le _) _ rfl ?_; intro g2 cap2 w2 hown hgrow hw2 hlt2; have b2 := ((HV.out.alloc _).alloc _).drew.bp.grown hgrow (fun e => HV.out.ne p e.symm rfl); have c2 := b2.cell 0; have f2 := b2.free 0; simp at c2))
    all_goals
      have HA := Lib.hid (((HV.out.alloc (.cells #[.slice ca cl cc, .int .i64 kd, .int .i64 bl, .int .i64 ind] 36)).alloc (.cells #[.slice ca cl cc, .int .i64 kd, .int .i64 bl, .int .i64 ind] 36)).drew.app (el := ⟨.slice ca cl cc, kd, bl, ind⟩) (e := ⟨kd, bl, ind, c⟩) ⟨rfl, rfl, rfl, (HC.out.keep (Agree.alloc S w _ fun b hb => (HV.out.oks b hb).1)).keep ((Agree.alloc S _ _ fun b hb => by have := (HV.out.oks b hb).1; simp; omega).trans (Agree.drew S _))⟩ hown hgrow hw2)
      clear hown hgrow hw2 c2 f2 b2
      go_wp2
      go_end0
      obtain ⟨⟨r', hv', hr'⟩, hfr⟩ := HA.out
      refine ⟨rfl, ⟨_, r', _, hv', ?_⟩, ?_⟩
      · rcases hr' with h | h
        · exact .inl h
        · right
          have h9 : ((w.alloc (.cells #[.slice ca cl cc, .int .i64 kd, .int .i64 bl, .int .i64 ind] 36)).alloc (.cells #[.slice ca cl cc, .int .i64 kd, .int .i64 bl, .int .i64 ind] 36)).heap.size ≤ r' := h
          simp at h9
          omega
      · exact (((Fr.refl w _).alloc _).alloc _).drew.trans hfr
  · skip
    go_enter Tryf.func16, Tryf.ntmps16
    go_wp2_with fail
    refine KCL.out.mono ?_
    rintro e w1 ⟨rfl, rfl⟩
    go_wp2_with fail
    refine KCL.out.mono ?_
    rintro e w1 ⟨rfl, rfl⟩
    go_wp2_with fail
    go_region_law (first | (refine step_append_lies _ rfl (.tmp 79) (.tmp 81) 26 rfl 0 36 i0 _ 4 48 Tryf.underlying26 HI.out HZ0.out HZ1.out HZ2.out (by simp [Value.cells]) (by omega) (.slice va vn vc) els.length (cellsF els) rfl ((HV.out.alloc _).alloc _).own _ 1 1 (El.cells ⟨.slice ca cl cc, kd, bl, ind⟩) rfl rfl (new_cellsN _ _ _ _ (by simp)) (by intro u hu; simp only [El.cells, List.mem_cons, List.not_mem_nil, or_false] at hu; rcases hu with rfl | rfl | rfl | rfl <;> rfl) (by omega) (by unfold maxLen; omega) (by omega) (Nat.zero_le _) _ rfl ?_; intro g2 cap2 w2 hown hgrow hw2 hlt2; have b2 := ((HV.out.alloc _).alloc _).drew.bp.grown hgrow (fun e => HV.out.ne p e.symm rfl); have c2 := b2.cell 0; have f2 := b2.free 0; simp at c2))
    all_goals
      have HA := Lib.hid (((HV.out.alloc (.cells #[.slice ca cl cc, .int .i64 kd, .int .i64 bl, .int .i64 ind] 36)).alloc (.cells #[.slice ca cl cc, .int .i64 kd, .int .i64 bl, .int .i64 ind] 36)).drew.app (el := ⟨.slice ca cl cc, kd, bl, ind⟩) (e := ⟨kd, bl, ind, c⟩) ⟨rfl, rfl, rfl, (HC.out.keep (Agree.alloc S w _ fun b hb => (HV.out.oks b hb).1)).keep ((Agree.alloc S _ _ fun b hb => by have := (HV.out.oks b hb).1; simp; omega).trans (Agree.drew S _))⟩ hown hgrow hw2)
      clear hown hgrow hw2 c2 f2 b2
      go_wp2
      go_end0
      obtain ⟨⟨r', hv', hr'⟩, hfr⟩ := HA.out
      refine ⟨rfl, ⟨_, r', _, hv', ?_⟩, ?_⟩
      · rcases hr' with h | h
        · exact .inl h
        · right
          have h9 : ((w.alloc (.cells #[.slice ca cl cc, .int .i64 kd, .int .i64 bl, .int .i64 ind] 36)).alloc (.cells #[.slice ca cl cc, .int .i64 kd, .int .i64 bl, .int .i64 ind] 36)).heap.size ≤ r' := h
          simp at h9
          omega
      · exact (((Fr.refl w _).alloc _).alloc _).drew.trans hfr
end Go.Proofs.YtakhhnjnohnllaaFmt
