/- Rows of fodder elements that are a call's own; what a step leaves of the rest of memory. -/
import Derived.Test.YtlaghkppjdphnaaFmtMem
import Derived.Maps.AppendAt
import Derived.Laws.AppendOwnNone
import Derived.Deep.RegionLaw
namespace Go.Proofs.YtlaghkppjdphnaaFmt
open Go.RowKit
set_option linter.unusedVariables false

theorem infE : (Tryf.prog.info? 91).map (fun i => (i.zero, i.size, i.bytes)) = some (some (.agg #[.slice none 0 0, .int .i64 0, .int .i64 0, .int .i64 0]), 4, 48) := by kernel_rfl
def New (w w' : World) (b : Nat) : Prop := w.heap.size ≤ b ∧ b < w'.heap.size
def Old (w : World) (b : Nat) : Prop := b < w.heap.size
theorem new_cells (w : World) (cs : Array Value) (t : TypeId) : ∀ (j : Nat) (u : Value), cs.toList[j]? = some u → (w.alloc (.cells cs t)).cell? ((⟨w.heap.size, 0, none⟩ : Addr).add j) = some u := by
  intro j u h
  have h2 : (w.alloc (.cells cs t)).cell? ⟨w.heap.size, j, none⟩ = some u := by
    rw [(Blk.new w t cs).cell]
    simpa using h
  rw [Go.WideShapes.add_plain]
  simpa using h2
theorem new_cellsN (w : World) (cs : Array Value) (t : TypeId) (N : Nat) (hN : N = w.heap.size) : ∀ (j : Nat) (u : Value), cs.toList[j]? = some u → (w.alloc (.cells cs t)).cell? ((⟨N, 0, none⟩ : Addr).add j) = some u := by
  subst hN
  exact new_cells w cs t
theorem of_hid {p : Prop} (h : Hid p) : p := h.out
theorem own_rdS {w : World} {base e size g n c : Nat} {xs : List Value} {S : Nat → Prop} (h : w.ownsRow base e size (.slice (some ⟨g, 0, none⟩) n c) n xs) (hS : S g) : RdS w S (some ⟨g, 0, none⟩) xs := by
  have hc := h.cells (g := g) rfl
  refine .inr ⟨g, 0, rfl, hS, fun i u hu => ?_⟩
  have := hc i u hu
  rw [Go.WideShapes.add_plain] at this
  exact this
/-- All but the blocks of X is as it was. -/
structure Fr (w w' : World) (X : Nat → Prop) : Prop where
  os : w'.os = w.os
  tape : w'.tape = w.tape
  output : w'.output = w.output
  size : w.heap.size ≤ w'.heap.size
  block : ∀ b, b < w.heap.size → ¬ X b → w'.heap[b]? = w.heap[b]?
theorem Fr.refl (w : World) (X : Nat → Prop) : Fr w w X := ⟨rfl, rfl, rfl, Nat.le_refl _, fun _ _ _ => rfl⟩
theorem Fr.alloc {w w' : World} {X : Nat → Prop} (h : Fr w w' X) (o : Obj) : Fr w (w'.alloc o) X :=
  ⟨h.os, h.tape, h.output, by have := h.size; simp; omega, fun b hb hx => (Below.heap_alloc w' o b (Nat.lt_of_lt_of_le hb h.size)).trans (h.block b hb hx)⟩
theorem Fr.drew {w w' : World} {X : Nat → Prop} (h : Fr w w' X) : Fr w w'.drew X := ⟨h.os, h.tape, h.output, h.size, h.block⟩
theorem Fr.grown {w w' w2 : World} {X : Nat → Prop} {row : Option Nat} (h : Fr w w' X) (hg : w'.grownBy w2 row) (hr : ∀ q, row = some q → X q ∨ w.heap.size ≤ q) : Fr w w2 X :=
  ⟨hg.os.trans h.os, hg.tape.trans h.tape, hg.output.trans h.output, Nat.le_trans h.size hg.size, fun b hb hx => (hg.block b (Nat.lt_of_lt_of_le hb h.size) (fun e => by rcases hr b e.symm with h1 | h1; exact hx h1; omega)).trans (h.block b hb hx)⟩
theorem Fr.setCell {w w' : World} {X : Nat → Prop} (h : Fr w w' X) (p : Addr) (u : Value) (hp : X p.block ∨ w.heap.size ≤ p.block) : Fr w (w'.setCell p u) X :=
  ⟨h.os, h.tape, h.output, by simpa using h.size, fun b hb hx => (Below.heap_setCell w' p u b (fun e => by rcases hp with h1 | h1; exact hx (e ▸ h1); omega)).trans (h.block b hb hx)⟩
theorem Fr.below {w0 w w' : World} {X : Nat → Prop} {B : Nat} (h0 : Below B w0 w) (h : Fr w w' X) (hB : B ≤ w.heap.size) (hX : ∀ b, X b → B ≤ b) : Below B w0 w' :=
  h0.trans ⟨h.os, h.tape, h.output, h.size, fun b hb => h.block b (Nat.lt_of_lt_of_le hb hB) (fun hx => by have := hX b hx; omega)⟩
theorem Fr.agree {w w' : World} {X S : Nat → Prop} (h : Fr w w' X) (hS : ∀ b, S b → b < w.heap.size ∧ ¬ X b) : Agree S w w' := fun b hb => h.block b (hS b hb).1 (hS b hb).2
theorem Fr.blk {w w' : World} {X : Nat → Prop} (h : Fr w w' X) {g : Nat} {t : TypeId} {cs : Array Value} (hb : Blk w g t cs) (hX : ¬ X g) : Blk w' g t cs := (h.block g hb.lt hX).trans hb
theorem Fr.sub {w w' : World} {X Y : Nat → Prop} (h : Fr w w' X) (hs : ∀ b, X b → Y b) : Fr w w' Y := ⟨h.os, h.tape, h.output, h.size, fun b hb hy => h.block b hb fun hx => hy (hs b hx)⟩
theorem Fr.trans {w w1 w2 : World} {X : Nat → Prop} (h : Fr w w1 X) (k : Fr w1 w2 X) : Fr w w2 X := ⟨k.os.trans h.os, k.tape.trans h.tape, k.output.trans h.output, Nat.le_trans h.size k.size, fun b hb hx => (k.block b (Nat.lt_of_lt_of_le hb h.size) hx).trans (h.block b hb hx)⟩
theorem Fr.of_below {w w' : World} (h : Below w.heap.size w w') (X : Nat → Prop) : Fr w w' X := ⟨h.os, h.tape, h.output, h.size, fun b hb _ => h.block b hb⟩

theorem own_set {w : World} {base e size n : Nat} {v : Value} {xs : List Value} (h : w.ownsRow base e size v n xs) (p : Addr) (u : Value) (hp : ∀ q, v.ownBlock = some q → q ≠ p.block) : (w.setCell p u).ownsRow base e size v n xs := by
  obtain ⟨hl, h⟩ := h
  refine ⟨hl, ?_⟩
  rcases h with h | ⟨g, cap, cur, hv, hb, hh, h1, h2, h3, h4⟩
  · exact .inl h
  · refine .inr ⟨g, cap, cur, hv, hb, ?_, h1, h2, h3, h4⟩
    rw [Below.heap_setCell w p u g (hp g (by rw [hv]; rfl))]
    exact hh

/-- The slice v owns a row (block r, if any) that holds es; the comments lie in S. -/
def OwnF (w : World) (r : Nat) (S : Nat → Prop) (v : Value) (es : List LE) : Prop := ∃ els, ElsAre w S els es ∧ w.ownsRow 0 91 4 v els.length (cellsF els) ∧ (∀ q, v.ownBlock = some q → q = r)
theorem OwnF.nil (w : World) (r : Nat) (S : Nat → Prop) : OwnF w r S (.slice none 0 0) [] := ⟨[], ElsAre.nil _ _, World.ownsRow_nil _ _ _ _, fun q hq => by simp [Value.ownBlock] at hq⟩
theorem OwnF.fod {w : World} {r : Nat} {S : Nat → Prop} {v : Value} {es : List LE} (h : OwnF w r S v es) (hl : es.length ≤ 16777216) : ∃ f, FodV w (fun b => S b ∨ (b = r ∧ b < w.heap.size)) v f ∧ f.getD [] = es := by
  obtain ⟨els, h1, h2, h3⟩ := h
  rcases h2.2 with ⟨rfl, h5⟩ | ⟨g, cap, cur, rfl, hb, hg, rest⟩
  · refine ⟨none, rfl, ?_⟩
    have : es.length = 0 := by rw [← h1.1, h5]
    simp [List.length_eq_zero_iff.1 this]
  · exact ⟨some es, ⟨⟨g, 0, none⟩, cap, by rw [h1.1], hl, els, h1.sub fun b hb => .inl hb, own_rdS h2 (.inr ⟨h3 g rfl, (Array.getElem?_eq_some_iff.1 hg).1⟩)⟩, rfl⟩
theorem OwnF.fr {w w' : World} {r : Nat} {S X : Nat → Prop} {v : Value} {es : List LE} (h : OwnF w r S v es) (fr : Fr w w' X) (hS : ∀ b, S b → b < w.heap.size ∧ ¬ X b) (hr : ¬ X r) : OwnF w' r S v es := by
  obtain ⟨els, h1, h2, h3⟩ := h
  refine ⟨els, h1.keep (fr.agree hS), ⟨h2.1, ?_⟩, h3⟩
  rcases h2.2 with h5 | ⟨g, cap, cur, hv, hb, hg, rest⟩
  · exact .inl h5
  · have hgr : g = r := h3 g (by rw [hv]; rfl)
    exact .inr ⟨g, cap, cur, hv, hb, (fr.block g (Array.getElem?_eq_some_iff.1 hg).1 (by rw [hgr]; exact hr)).trans hg, rest⟩
theorem OwnF.is_sliceV {w : World} {r : Nat} {S : Nat → Prop} {v : Value} {es : List LE} (h : OwnF w r S v es) : ∃ x l d, v = .slice x l d := by
  obtain ⟨els, h1, h2, h3⟩ := h
  rcases h2.2 with ⟨rfl, _⟩ | ⟨q, cap, cur, rfl, _⟩
  · exact ⟨_, _, _, rfl⟩
  · exact ⟨_, _, _, rfl⟩
theorem Fr.step {w w1 w2 : World} {X Y : Nat → Prop} (h : Fr w w1 X) (k : Fr w1 w2 Y) (hy : ∀ b, b < w.heap.size → Y b → X b) : Fr w w2 X :=
  ⟨k.os.trans h.os, k.tape.trans h.tape, k.output.trans h.output, Nat.le_trans h.size k.size, fun b hb hx => (k.block b (Nat.lt_of_lt_of_le hb h.size) fun hk => hx (hy b hb hk)).trans (h.block b hb hx)⟩
theorem Fr.of_grown {w w' : World} {row : Option Nat} (h : w.grownBy w' row) : Fr w w' (fun b => some b = row) := ⟨h.os, h.tape, h.output, h.size, fun b hb hx => h.block b hb hx⟩
theorem FodV.fr {w w' : World} {S X : Nat → Prop} {v : Value} {f : Option (List LE)} (h : FodV w S v f) (fr : Fr w w' X) (hS : ∀ b, S b → b < w.heap.size ∧ ¬ X b) : FodV w' S v f := h.keep (fr.agree hS)

theorem ElsAre.append {w : World} {S : Nat → Prop} {v v2 : List El} {c c2 : List LE} (h : ElsAre w S v c) (h2 : ElsAre w S v2 c2) : ElsAre w S (v ++ v2) (c ++ c2) := by
  refine ⟨by simp [h.1, h2.1], fun i el e h3 h4 => ?_⟩
  rcases Nat.lt_or_ge i v.length with hl | hl
  · rw [List.getElem?_append_left hl] at h3
    rw [List.getElem?_append_left (by rw [← h.1]; exact hl)] at h4
    exact h.2 i el e h3 h4
  · rw [List.getElem?_append_right hl] at h3
    rw [List.getElem?_append_right (by rw [← h.1]; exact hl), ← h.1] at h4
    exact h2.2 _ el e h3 h4

end Go.Proofs.YtlaghkppjdphnaaFmt
