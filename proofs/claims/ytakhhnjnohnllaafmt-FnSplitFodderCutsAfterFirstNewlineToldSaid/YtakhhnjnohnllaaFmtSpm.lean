/- splitFodder: what lies in memory on its way. -/
import Derived.Test.YtakhhnjnohnllaaFmtFat
namespace Go.Proofs.YtakhhnjnohnllaaFmt
open Go.RowKit
set_option linter.unusedVariables false

/-- The first half's slice av (a row of its own), the second half's variable at p. -/
structure Spl (w wr : World) (p : Nat) (S : Nat → Prop) (av : Value) (ea : List El) (bv : Value) (eb : List El) (rb : Nat) (L1 L2 : List LE) : Prop where
  hp : p = w.heap.size
  bel : Below p w wr
  a : ElsAre wr S ea L1
  aown : wr.ownsRow 0 36 4 av ea.length (cellsF ea)
  arow : ∀ q, av.ownBlock = some q → p < q ∧ q ≠ rb
  b : Var wr p rb S bv eb L2
  hrb : p ≤ rb
  oks : ∀ b, S b → b < p
theorem Spl.alloc {w wr : World} {p rb : Nat} {S : Nat → Prop} {av bv : Value} {ea eb : List El} {L1 L2 : List LE} (h : Spl w wr p S av ea bv eb rb L1 L2) (o : Obj) : Spl w (wr.alloc o) p S av ea bv eb rb L1 L2 :=
  ⟨h.hp, h.bel.alloc (Nat.le_of_lt h.b.bp.lt) o, h.a.keep (Agree.alloc S wr o fun b hb => Nat.lt_trans (h.oks b hb) h.b.bp.lt), h.aown.alloc o, h.arow, h.b.alloc o, h.hrb, h.oks⟩
theorem Spl.app {w wr w2 : World} {p rb g cap : Nat} {S : Nat → Prop} {av bv : Value} {ea eb : List El} {L1 L2 : List LE} {el : El} {e : LE} (h : Spl w wr p S av ea bv eb rb L1 L2) (he : ElIs wr S el e)
    (ho : w2.ownsRow 0 36 4 (.slice (some ⟨g, 0, none⟩) (ea.length + 1) cap) (ea.length + 1) (cellsF ea ++ el.cells)) (hg : wr.grownBy w2 av.ownBlock) (hw : av.ownBlock = some g ∨ g = wr.heap.size) :
    Spl w w2 p S (.slice (some ⟨g, 0, none⟩) (ea.length + 1) cap) (ea ++ [el]) bv eb rb (L1 ++ [e]) L2 := by
  have fr : Fr wr w2 (fun b => some b = av.ownBlock) := Fr.of_grown hg
  have hS : ∀ b, S b → ¬ (some b = av.ownBlock) := fun b hb e => by have := (h.arow b e.symm).1; have := h.oks b hb; omega
  have hpl := h.b.bp.lt
  refine ⟨h.hp, ?_, ?_, ?_, ?_, h.b.fr fr (fun e => by have := (h.arow p e.symm).1; omega) (fun e => (h.arow rb e.symm).2 rfl) hS, h.hrb, h.oks⟩
  · exact fr.below h.bel (Nat.le_of_lt hpl) fun b e => Nat.le_of_lt (h.arow b e.symm).1
  · have hag := fr.agree (S := S) fun b hb => ⟨Nat.lt_trans (h.oks b hb) hpl, hS b hb⟩
    exact ElsAre.snoc (h.a.keep hag) (he.keep hag)
  · have e1 : cellsF (ea ++ [el]) = cellsF ea ++ el.cells := by rw [cellsF_append]; simp [cellsF]
    rw [e1, List.length_append]
    exact ho
  · intro q hq
    injection hq with hq
    simp only at hq
    subst hq
    rcases hw with h1 | h1
    · exact h.arow g h1
    · exact ⟨by omega, fun e => by have := h.b.hr; omega⟩
theorem Spl.put {w wr : World} {p rb g n cap : Nat} {S : Nat → Prop} {bv : Value} {ea eb : List El} {L1 L2 : List LE} (h : Spl w wr p S (.slice (some ⟨g, 0, none⟩) n cap) ea bv eb rb L1 L2) {k j : Nat} {el el' : El} {e' : LE} {u : Value} (hel : ea[k]? = some el) (hj : j < 4) (hu : el'.cells = el.cells.set j u)
    (he : ElIs wr S el' e') : Spl w (wr.setCell ⟨g, k * 4 + j, none⟩ u) p S (.slice (some ⟨g, 0, none⟩) n cap) (ea.set k el') bv eb rb (L1.set k e') L2 := by
  have hgr := h.arow g rfl
  have hpl := h.b.bp.lt
  have hag : Agree S wr (wr.setCell ⟨g, k * 4 + j, none⟩ u) := Agree.setCell S wr _ _ fun hb => by have := h.oks g hb; have := hgr.1; omega
  have hn : n = ea.length := by
    rcases h.aown.2 with ⟨hv, _⟩ | ⟨g', cap', cur, hv, _⟩
    · cases hv
    · injection hv
  subst hn
  have fr : Fr wr (wr.setCell ⟨g, k * 4 + j, none⟩ u) (fun b => b = g) := (Fr.refl wr _).setCell _ _ (.inl rfl)
  refine ⟨h.hp, fr.below h.bel (Nat.le_of_lt hpl) (fun b e => by rw [e]; exact Nat.le_of_lt hgr.1), (h.a.keep hag).setAt (he.keep hag), ?_, h.arow, h.b.fr fr (fun e => by have := hgr.1; omega) (fun e => hgr.2 e.symm) (fun b hb e => by have := h.oks b hb; have := hgr.1; omega), h.hrb, h.oks⟩
  have := (h.aown.stored (k * 4 + j) u).1
  rw [cellsF_setL ea k j el el' u hel hj hu] at this
  rw [List.length_set]
  exact this
theorem Spl.at {w wr : World} {p rb g n cap : Nat} {S : Nat → Prop} {bv : Value} {ea eb : List El} {L1 L2 : List LE} (h : Spl w wr p S (.slice (some ⟨g, 0, none⟩) n cap) ea bv eb rb L1 L2) {k j : Nat} {el : El} (hel : ea[k]? = some el) (hj : j < 4) : wr.cell? ⟨g, k * 4 + j, none⟩ = el.cells[j]? ∧ wr.frozen? ⟨g, k * 4 + j, none⟩ = false := by
  have hn : n = ea.length := by
    rcases h.aown.2 with ⟨hv, _⟩ | ⟨g', cap', cur, hv, _⟩
    · cases hv
    · injection hv
  subst hn
  have hk := (List.getElem?_eq_some_iff.1 hel).1
  exact ⟨by rw [h.aown.cellAt _ (by omega), cellsF_at ea k j el hel hj], h.aown.frozenAt _⟩
/-- What a call on the variable at p leaves. -/
theorem Spl.call {w wr w2 : World} {p rb rb' : Nat} {S : Nat → Prop} {av bv bv' : Value} {ea eb eb' : List El} {L1 L2 L2' : List LE} (h : Spl w wr p S av ea bv eb rb L1 L2) (hv : Var w2 p rb' S bv' eb' L2') (hr : rb' = rb ∨ wr.heap.size ≤ rb') (fr : Fr wr w2 (fun b => b = p ∨ b = rb)) : Spl w w2 p S av ea bv' eb' rb' L1 L2' := by
  have hpl := h.b.bp.lt
  have hX : ∀ b, S b → ¬ (b = p ∨ b = rb) := fun b hb e => by have := h.oks b hb; have := h.hrb; omega
  refine ⟨h.hp, fr.below h.bel (Nat.le_of_lt hpl) (fun b e => by have := h.hrb; rcases e with e | e <;> omega), h.a.keep (fr.agree fun b hb => ⟨Nat.lt_trans (h.oks b hb) hpl, hX b hb⟩), ?_, ?_, hv, ?_, h.oks⟩
  · refine ⟨h.aown.1, ?_⟩
    rcases h.aown.2 with h5 | ⟨g, cap, cur, hav, hb, hg, rest⟩
    · exact .inl h5
    · have hq := h.arow g (by rw [hav]; rfl)
      exact .inr ⟨g, cap, cur, hav, hb, (fr.block g (Array.getElem?_eq_some_iff.1 hg).1 (by rintro (e | e); have := hq.1; omega; exact hq.2 e)).trans hg, rest⟩
  · intro q hq
    have h1 := h.arow q hq
    have h2 : q < wr.heap.size := by
      rcases h.aown.2 with ⟨hv5, _⟩ | ⟨g, cap, cur, hav, hb, hg, rest⟩
      · rw [hv5] at hq; cases hq
      · rw [hav] at hq
        injection hq with hq
        subst hq
        exact (Array.getElem?_eq_some_iff.1 hg).1
    exact ⟨h1.1, by rcases hr with e | e; rw [e]; exact h1.2; omega⟩
  · have := h.hrb
    rcases hr with e | e <;> omega
theorem Spl.zero (w : World) (S : Nat → Prop) (hS : ∀ b, S b → b < w.heap.size) : Spl w (w.alloc (.cells #[.slice none 0 0] 26)) w.heap.size S (.slice none 0 0) [] (.slice none 0 0) [] w.heap.size [] [] :=
  ⟨rfl, (Below.refl _ _).alloc (Nat.le_refl _) _, ElsAre.nil _ _, World.ownsRow_nil _ _ _ _, fun q hq => by simp [Value.ownBlock] at hq,
    ⟨Blk.new _ _ _, ElsAre.nil _ _, World.ownsRow_nil _ _ _ _, fun q hq => by simp [Value.ownBlock] at hq, fun b hb => by have := hS b hb; simp; omega, by simp⟩, Nat.le_refl _, hS⟩
/-- The two halves as fodders. -/
theorem Spl.halves {w wr : World} {p rb : Nat} {S : Nat → Prop} {av bv : Value} {ea eb : List El} {L1 L2 : List LE} (h : Spl w wr p S av ea bv eb rb L1 L2) (h1 : L1.length ≤ 16777216) (h2 : L2.length ≤ 16777216) :
    (∃ f, FodV wr (fun b => b < wr.heap.size) av f ∧ f.getD [] = L1) ∧ (∃ f, FodV wr (fun b => b < wr.heap.size) bv f ∧ f.getD [] = L2) := by
  have hpl := h.b.bp.lt
  have hrl := h.b.hr
  constructor
  · have : ∃ r, ∀ q, av.ownBlock = some q → q = r := by
      cases hq : av.ownBlock with
      | none => exact ⟨0, fun q hq => by cases hq⟩
      | some r => exact ⟨r, fun q hq => by injection hq with hq; exact hq.symm⟩
    obtain ⟨r, hr⟩ := this
    obtain ⟨f, hf, hl⟩ := OwnF.fod (r := r) ⟨ea, h.a, h.aown, hr⟩ h1
    exact ⟨f, hf.sub fun b hb => by rcases hb with hb | hb; have := h.oks b hb; omega; exact hb.2, hl⟩
  · obtain ⟨f, hf, hl⟩ := h.b.ownF.fod h2
    exact ⟨f, hf.sub fun b hb => by rcases hb with hb | hb; have := h.oks b hb; omega; exact hb.2, hl⟩
end Go.Proofs.YtakhhnjnohnllaaFmt
