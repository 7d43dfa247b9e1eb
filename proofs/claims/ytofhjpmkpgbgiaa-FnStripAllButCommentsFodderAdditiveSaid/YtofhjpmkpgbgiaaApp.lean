/- A fodder whose row is the call's own; append of another fodder onto it. -/
import Derived.Test.YtofhjpmkpgbgiaaPas
import Derived.Maps.AppendAt
import Derived.Laws.AppendOwnNone
namespace Go.Proofs.Ytofhjpmkpgbgiaa
open Go.RowKit
set_option linter.unusedVariables false

/-- The slice v owns a row (block r, if any) that holds es; the comments lie in S. -/
def OwnF (w : World) (r : Nat) (S : Nat → Prop) (v : Value) (es : List LE) : Prop := ∃ els, ElsAre w S els es ∧ w.ownsRow 0 50 4 v els.length (cellsF els) ∧ (∀ q, v.ownBlock = some q → q = r)
theorem OwnF.nil (w : World) (r : Nat) (S : Nat → Prop) : OwnF w r S (.slice none 0 0) [] := ⟨[], ElsAre.nil _ _, World.ownsRow_nil _ _ _ _, fun q hq => by simp [Value.ownBlock] at hq⟩
theorem OwnF.fod {w : World} {r : Nat} {S : Nat → Prop} {v : Value} {es : List LE} (h : OwnF w r S v es) (hl : es.length ≤ 16777216) : ∃ f, FodV w (fun b => S b ∨ (b = r ∧ b < w.heap.size)) v f ∧ f.getD [] = es := by
  obtain ⟨els, h1, h2, h3⟩ := h
  rcases h2.2 with ⟨rfl, h5⟩ | ⟨g, cap, cur, rfl, hb, hg, rest⟩
  · refine ⟨none, rfl, ?_⟩
    have : es.length = 0 := by rw [← h1.1, h5]
    simp [List.length_eq_zero_iff.1 this]
  · exact ⟨some es, ⟨⟨g, 0, none⟩, cap, by rw [h1.1], hl, els, h1.sub fun b hb => .inl hb, own_rdS h2 (.inr ⟨h3 g rfl, (Array.getElem?_eq_some_iff.1 hg).1⟩)⟩, rfl⟩
theorem OwnF.fr {w w' : World} {r : Nat} {S X : Nat → Prop} {v : Value} {es : List LE} (h : OwnF w r S v es) (fr : Fr w w' X) (hS : ∀ b, S b → b < w.heap.size ∧ ¬ X b) (hr : ¬ X r) : OwnF w' r S v es := by
  obtain ⟨els, h1, h2, h3⟩ := h
  refine ⟨els, h1.keep (fr.agree hS), ⟨h2.1, ?_⟩, h3⟩
  rcases h2.2 with h5 | ⟨g, cap, cur, hv, hb, hg, rest⟩
  · exact .inl h5
  · have hgr : g = r := h3 g (by rw [hv]; rfl)
    exact .inr ⟨g, cap, cur, hv, hb, (fr.block g (Array.getElem?_eq_some_iff.1 hg).1 (by rw [hgr]; exact hr)).trans hg, rest⟩
theorem Fr.step {w w1 w2 : World} {X Y : Nat → Prop} (h : Fr w w1 X) (k : Fr w1 w2 Y) (hy : ∀ b, b < w.heap.size → Y b → X b) : Fr w w2 X :=
  ⟨k.os.trans h.os, k.tape.trans h.tape, k.output.trans h.output, Nat.le_trans h.size k.size, fun b hb hx => (k.block b (Nat.lt_of_lt_of_le hb h.size) fun hk => hx (hy b hb hk)).trans (h.block b hb hx)⟩
theorem Fr.of_grown {w w' : World} {row : Option Nat} (h : w.grownBy w' row) : Fr w w' (fun b => some b = row) := ⟨h.os, h.tape, h.output, h.size, fun b hb hx => h.block b hb hx⟩
theorem FodV.fr {w w' : World} {S X : Nat → Prop} {v : Value} {f : Option (List LE)} (h : FodV w S v f) (fr : Fr w w' X) (hS : ∀ b, S b → b < w.heap.size ∧ ¬ X b) : FodV w' S v f := h.keep (fr.agree hS)

theorem ElsAre.append {w : World} {S : Nat → Prop} {v v2 : List El} {c c2 : List LE} (h : ElsAre w S v c) (h2 : ElsAre w S v2 c2) : ElsAre w S (v ++ v2) (c ++ c2) := by
  refine ⟨by simp [h.1, h2.1], fun i el e h3 h4 => ?_⟩
  rcases Nat.lt_or_ge i v.length with hl | hl
  · rw [List.getElem?_append_left hl] at h3
    rw [List.getElem?_append_left (by rw [← h.1]; exact hl)] at h4
    exact h.2 i el e h3 h4
  · rw [List.getElem?_append_right hl] at h3
    rw [List.getElem?_append_right (by rw [← h.1]; exact hl), ← h.1] at h4
    exact h2.2 _ el e h3 h4

/-- append(v, v2...), v the call's own, v2 whatever can be read. -/
theorem wpList_append_fod {w : World} {ops : Array Oper} {rest : List Oper} {o : Oper} {a : Act} {Q : Exit → Act → World → Prop} (hgd : o.guard = none) (s x : Operand)
    (ho : o.op = .call { callee := .builtin .append, args := #[s, x], argTypes := #[26, 26] }) (r : Nat) (S : Nat → Prop) (v v2 : Value) (es : List LE) (g : Option (List LE)) (hs : a.eval s = v) (hx : a.eval x = v2)
    (hown : OwnF w r S v es) (hf : FodV w S v2 g) (hS : ∀ b, S b → b < w.heap.size ∧ b ≠ r) (hl : es.length ≤ 16777216)
    (h : ∀ v' w' r', OwnF w' r' S v' (es ++ g.getD []) → Fr w w' (fun b => b = r) → (r' = r ∨ r' = w.heap.size) → wpList Try.prog ops Q rest (a.put o.dst v') w') : wpList Try.prog ops Q (o :: rest) a w := by
  obtain ⟨els, h1, h2, h3⟩ := hown
  obtain ⟨i0, hi, hz0, hz1, hz2⟩ := info_parts Try.inf50
  cases g with
  | none =>
    obtain rfl : v2 = .slice none 0 0 := hf
    refine wpList_append_own_none hgd s x 26 ho 0 50 i0 4 Try.underlying26 hi v els.length (cellsF els) hs h2 hx (h v w r ⟨els, by simpa using h1, h2, h3⟩ (Fr.refl _ _) (.inl rfl))
  | some gs =>
    obtain ⟨ad, cp, rfl, hgl, els2, k1, k2⟩ := hf
    have hlen : els2.length = gs.length := k1.1
    refine wpList_append_own_at w hgd s x 26 ho 0 50 i0 _ 4 48 Try.underlying26 hi hz0 hz1 hz2 (by simp [Value.cells]) (by omega) v els.length (cellsF els) hs h2 ad gs.length cp (cellsF els2) hx (by rw [cellsF_len, hlen]) ?_ k1.one (by have := h1.1; unfold maxLen; omega) (by have := h1.1; omega) (Nat.zero_le _) ?_
    · clear h
      intro j u hu
      rcases k2 with hk | ⟨b, off, he, _, hc⟩
      · exact absurd hu (by simp [hk])
      · obtain rfl := Option.some.inj he
        rw [Go.WideShapes.add_plain]
        exact hc j u hu
    · intro v' w' o1 o2 _ o4
      have fr : Fr w w' (fun b => b = r) := (Fr.of_grown o2).sub fun b hb => h3 b hb.symm
      refine h v' w' (if v'.ownBlock = v.ownBlock then r else w.heap.size) ⟨els ++ els2, ?_, ?_, ?_⟩ fr ?_
      · exact ElsAre.append (h1.keep (fr.agree hS)) (k1.keep (fr.agree hS))
      · rw [List.length_append, cellsF_append, hlen]
        exact o1
      · intro q hq
        by_cases he : v'.ownBlock = v.ownBlock
        · rw [if_pos he]
          exact h3 q (by rw [← he]; exact hq)
        · rw [if_neg he]
          rcases o4 with o4 | o4
          · exact absurd o4 he
          · exact (Option.some.inj (o4.symm.trans hq)).symm
      · by_cases he : v'.ownBlock = v.ownBlock
        · exact .inl (if_pos he)
        · exact .inr (if_neg he)

end Go.Proofs.Ytofhjpmkpgbgiaa
