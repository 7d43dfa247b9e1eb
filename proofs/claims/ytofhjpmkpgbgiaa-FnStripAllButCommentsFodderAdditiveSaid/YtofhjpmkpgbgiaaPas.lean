/- A pass that remembers comments, as one word: where its row lies, what it has remembered. -/
import Derived.Test.YtofhjpmkpgbgiaaWlk
namespace Go.Proofs.Ytofhjpmkpgbgiaa
open Go.RowKit
set_option linter.unusedVariables false

/-- The pass at block c has remembered L; its row lies in T, the comments in S. -/
def Pass (w : World) (c : Nat) (T S : Nat → Prop) (L : List LE) : Prop :=
  ∃ cv els, Blk w c 60 #[cv] ∧ ElsAre w S els L ∧ w.ownsRow 0 50 4 cv els.length (cellsF els) ∧ (∀ q, cv.ownBlock = some q → T q)

theorem Pass.fresh (w : World) (S : Nat → Prop) : Pass (w.alloc (.cells #[.slice none 0 0] 60)) w.heap.size (fun _ => False) S [] :=
  ⟨_, [], Blk.new _ _ _, ElsAre.nil _ _, World.ownsRow_nil _ _ _ _, fun q hq => by simp [Value.ownBlock] at hq⟩
theorem Pass.sub {w : World} {c : Nat} {T T' S S' : Nat → Prop} {L : List LE} (h : Pass w c T S L) (hT : ∀ b, b < w.heap.size → T b → T' b) (hS : ∀ b, S b → S' b) : Pass w c T' S' L := by
  obtain ⟨cv, els, h1, h2, h3, h4⟩ := h
  exact ⟨cv, els, h1, h2.sub hS, h3, fun q hq => hT q (h3.lt q hq).2 (h4 q hq)⟩
theorem Pass.keep {w w' : World} {c : Nat} {T S : Nat → Prop} {L : List LE} (h : Pass w c T S L) (ag : ∀ b, (b = c ∨ S b ∨ (T b ∧ b < w.heap.size)) → w'.heap[b]? = w.heap[b]?) : Pass w' c T S L := by
  obtain ⟨cv, els, h1, h2, h3, h4⟩ := h
  refine ⟨cv, els, (ag c (.inl rfl)).trans h1, h2.keep fun b hb => ag b (.inr (.inl hb)), ⟨h3.1, ?_⟩, h4⟩
  rcases h3.2 with h5 | ⟨g, cap, cur, hv, hb, hg, rest⟩
  · exact .inl h5
  · exact .inr ⟨g, cap, cur, hv, hb, (ag g (.inr (.inr ⟨h4 g (by rw [hv]; rfl), (Array.getElem?_eq_some_iff.1 hg).1⟩))).trans hg, rest⟩
theorem Pass.lt {w : World} {c : Nat} {T S : Nat → Prop} {L : List LE} (h : Pass w c T S L) : c < w.heap.size := by
  obtain ⟨cv, els, h1, _⟩ := h
  exact h1.lt
theorem Pass.below {w w' : World} {c : Nat} {T S : Nat → Prop} {L : List LE} (h : Pass w c T S L) (hb : Below w.heap.size w w') (hS : ∀ b, S b → b < w.heap.size) : Pass w' c T S L :=
  h.keep fun b hc => hb.block b (by rcases hc with rfl | hc | hc; exact h.lt; exact hS b hc; exact hc.2)
theorem Pass.fr {w w' : World} {c : Nat} {T S X : Nat → Prop} {L : List LE} (h : Pass w c T S L) (hb : Fr w w' X) (hS : ∀ b, S b → b < w.heap.size ∧ ¬ X b) (hT : ∀ b, T b → b < w.heap.size → ¬ X b) (hc : ¬ X c) : Pass w' c T S L :=
  h.keep fun b hb' => by
    rcases hb' with rfl | h1 | h1
    · exact hb.block _ h.lt hc
    · exact hb.block _ (hS b h1).1 (hS b h1).2
    · exact hb.block _ h1.2 (hT b h1.1 h1.2)
/-- What is remembered, as a fodder. -/
theorem Pass.fod {w : World} {c : Nat} {T S : Nat → Prop} {L : List LE} (h : Pass w c T S L) (hL : L.length ≤ 16777216) : ∃ cv f, Blk w c 60 #[cv] ∧ FodV w (fun b => S b ∨ (T b ∧ b < w.heap.size)) cv f ∧ f.getD [] = L := by
  obtain ⟨cv, els, h1, h2, h3, h4⟩ := h
  rcases h3.2 with ⟨rfl, h5⟩ | ⟨g, cap, cur, rfl, hb, hg, rest⟩
  · refine ⟨_, none, h1, rfl, ?_⟩
    have : L.length = 0 := by rw [← h2.1, h5]
    simp [List.length_eq_zero_iff.1 this]
  · refine ⟨_, some L, h1, ⟨⟨g, 0, none⟩, cap, by rw [h2.1], hL, els, h2.sub fun b hb => .inl hb, ?_⟩, rfl⟩
    exact own_rdS h3 (.inr ⟨h4 g rfl, (Array.getElem?_eq_some_iff.1 hg).1⟩)

/-- What a visit leaves. -/
def Left (w : World) (c p : Nat) (T S : Nat → Prop) (L : List LE) (e : Ending) (w' : World) : Prop :=
  e = .returned (.tuple #[]) ∧ Pass w' c (fun b => T b ∨ (w.heap.size ≤ b ∧ b < w'.heap.size)) S L ∧ Blk w' p 26 #[.slice none 0 0] ∧ Fr w w' (fun b => b = c ∨ b = p ∨ T b)

theorem visit_pass (w : World) (c p : Nat) (T S : Nat → Prop) (L : List LE) (v : Value) (f : Option (List LE)) (h : Pass w c T S L) (hp : Blk w p 26 #[v]) (hf : FodV w S v f) (hS : ∀ b, S b → b < w.heap.size ∧ b ≠ c ∧ b ≠ p ∧ ¬ T b) (hL : L.length ≤ 16777216) (pv cx : Value) :
    Calls Try.prog 19 #[.pointer (some ⟨c, 0, none⟩), pv, .pointer (some ⟨p, 0, none⟩), cx] w (Left w c p T S (L ++ keep (f.getD []))) := by
  obtain ⟨cv, els, h1, h2, h3, h4⟩ := h
  have hcp : c ≠ p := by
    rintro rfl
    rw [Blk, show w.heap[c]? = _ from h1] at hp
    injection hp with hp
    injection hp with _ ht
    exact absurd ht (by decide)
  have hne : ∀ (g t : Nat) (cs : Array Value), Blk w g t cs → t ≠ 50 → ∀ q, cv.ownBlock = some q → q ≠ g := by
    intro g t cs hg ht q hq hqg
    subst hqg
    rcases h3.2 with ⟨rfl, _⟩ | ⟨g', cap, cur, rfl, _, hh, _⟩
    · simp [Value.ownBlock] at hq
    · have : g' = q := by simpa [Value.ownBlock] using hq
      subst this
      rw [Blk, hh] at hg
      injection hg with hg
      injection hg with _ h5
      exact ht h5.symm
  have st : St w w (fun b => b = c ∨ b = p ∨ T b) 0 c p v S cv els L := by
    refine ⟨Fr.refl _ _, h1, hp, h2, h3, fun q hq => ⟨.inl (.inr (.inr (h4 q hq))), hne c 60 _ h1 (by decide) q hq, hne p 26 _ hp (by decide) q hq⟩, fun b hb => ⟨(hS b hb).1, ?_⟩, .inl rfl, h1.lt, .inr (.inl rfl), hp.lt, hcp, Nat.zero_le _⟩
    rintro (hx | hx | hx)
    · exact (hS b hb).2.1 hx
    · exact (hS b hb).2.2.1 hx
    · exact (hS b hb).2.2.2 hx
  refine (visit_any w _ 0 c p v S cv els L f st hf hL pv cx).mono ?_
  rintro e w' ⟨rfl, cv', els', st'⟩
  refine ⟨rfl, ⟨cv', els', st'.bc, st'.ar, st'.own, fun q hq => ?_⟩, st'.bp, st'.fr⟩
  have hl := (st'.own.lt q hq).2
  obtain ⟨h5, h6, h7⟩ := st'.row q hq
  rcases h5 with (rfl | rfl | h5) | h5
  · exact absurd rfl h6
  · exact absurd rfl h7
  · exact .inl h5
  · exact .inr ⟨h5, hl⟩
end Go.Proofs.Ytofhjpmkpgbgiaa
