/- StripAllButComments.Fodder: what the pass remembers. The memory's side. -/
import Derived.Test.YtofhjpmkpgbgiaaStr
namespace Go.Proofs.Ytofhjpmkpgbgiaa
open Go.RowKit
set_option linter.unusedVariables false

def keepE (e : LE) : List LE := if e.kind = 2 then [⟨2, 0, 0, e.com⟩] else if e.kind = 1 then [e, ⟨0, 0, 0, none⟩] else []
def keep (es : List LE) : List LE := es.flatMap keepE
theorem keep_succ (es : List LE) (k : Nat) (e : LE) (he : es[k]? = some e) : keep (es.take (k + 1)) = keep (es.take k) ++ keepE e := by
  unfold keep
  rw [List.take_add_one, he]
  simp
theorem keepE_le (e : LE) : (keepE e).length ≤ 2 := by
  unfold keepE
  split
  · simp
  · split <;> simp
theorem keep_le (es : List LE) : (keep es).length ≤ 2 * es.length := by
  induction es with
  | nil => simp [keep]
  | cons e es ih =>
    have h1 := keepE_le e
    have h2 : keep (e :: es) = keepE e ++ keep es := rfl
    rw [h2, List.length_append, List.length_cons]
    omega
theorem keep_append (a b : List LE) : keep (a ++ b) = keep a ++ keep b := by simp [keep]

/-- All but the blocks of X is as it was. -/
structure Fr (w w' : World) (X : Nat → Prop) : Prop where
  os : w'.os = w.os
  tape : w'.tape = w.tape
  output : w'.output = w.output
  size : w.heap.size ≤ w'.heap.size
  block : ∀ b, b < w.heap.size → ¬ X b → w'.heap[b]? = w.heap[b]?
theorem Fr.refl (w : World) (X : Nat → Prop) : Fr w w X := ⟨rfl, rfl, rfl, Nat.le_refl _, fun _ _ _ => rfl⟩
theorem Fr.alloc {w w' : World} {X : Nat → Prop} (h : Fr w w' X) (o : Obj) : Fr w (w'.alloc o) X :=
  ⟨h.os, h.tape, h.output, by have := h.size; simp; omega, fun b hb hx => (Below.heap_alloc w' o b (Nat.lt_of_lt_of_le hb h.size)).trans (h.block b hb hx)⟩
theorem Fr.drew {w w' : World} {X : Nat → Prop} (h : Fr w w' X) : Fr w w'.drew X := ⟨h.os, h.tape, h.output, h.size, h.block⟩
theorem Fr.grown {w w' w2 : World} {X : Nat → Prop} {row : Option Nat} (h : Fr w w' X) (hg : w'.grownBy w2 row) (hr : ∀ q, row = some q → X q ∨ w.heap.size ≤ q) : Fr w w2 X :=
  ⟨hg.os.trans h.os, hg.tape.trans h.tape, hg.output.trans h.output, Nat.le_trans h.size hg.size, fun b hb hx => (hg.block b (Nat.lt_of_lt_of_le hb h.size) (fun e => by rcases hr b e.symm with h1 | h1; exact hx h1; omega)).trans (h.block b hb hx)⟩
theorem Fr.setCell {w w' : World} {X : Nat → Prop} (h : Fr w w' X) (p : Addr) (u : Value) (hp : X p.block ∨ w.heap.size ≤ p.block) : Fr w (w'.setCell p u) X :=
  ⟨h.os, h.tape, h.output, by simpa using h.size, fun b hb hx => (Below.heap_setCell w' p u b (fun e => by rcases hp with h1 | h1; exact hx (e ▸ h1); omega)).trans (h.block b hb hx)⟩
theorem Fr.below {w0 w w' : World} {X : Nat → Prop} {B : Nat} (h0 : Below B w0 w) (h : Fr w w' X) (hB : B ≤ w.heap.size) (hX : ∀ b, X b → B ≤ b) : Below B w0 w' :=
  h0.trans ⟨h.os, h.tape, h.output, h.size, fun b hb => h.block b (Nat.lt_of_lt_of_le hb hB) (fun hx => by have := hX b hx; omega)⟩
theorem Fr.agree {w w' : World} {X S : Nat → Prop} (h : Fr w w' X) (hS : ∀ b, S b → b < w.heap.size ∧ ¬ X b) : Agree S w w' := fun b hb => h.block b (hS b hb).1 (hS b hb).2
theorem Fr.blk {w w' : World} {X : Nat → Prop} (h : Fr w w' X) {g : Nat} {t : TypeId} {cs : Array Value} (hb : Blk w g t cs) (hX : ¬ X g) : Blk w' g t cs := (h.block g hb.lt hX).trans hb
theorem Fr.sub {w w' : World} {X Y : Nat → Prop} (h : Fr w w' X) (hs : ∀ b, X b → Y b) : Fr w w' Y := ⟨h.os, h.tape, h.output, h.size, fun b hb hy => h.block b hb fun hx => hy (hs b hx)⟩
theorem Fr.trans {w w1 w2 : World} {X : Nat → Prop} (h : Fr w w1 X) (k : Fr w1 w2 X) : Fr w w2 X := ⟨k.os.trans h.os, k.tape.trans h.tape, k.output.trans h.output, Nat.le_trans h.size k.size, fun b hb hx => (k.block b (Nat.lt_of_lt_of_le hb h.size) hx).trans (h.block b hb hx)⟩
theorem Fr.of_below {w w' : World} (h : Below w.heap.size w w') (X : Nat → Prop) : Fr w w' X := ⟨h.os, h.tape, h.output, h.size, fun b hb _ => h.block b hb⟩

theorem own_set {w : World} {base e size n : Nat} {v : Value} {xs : List Value} (h : w.ownsRow base e size v n xs) (p : Addr) (u : Value) (hp : ∀ q, v.ownBlock = some q → q ≠ p.block) : (w.setCell p u).ownsRow base e size v n xs := by
  obtain ⟨hl, h⟩ := h
  refine ⟨hl, ?_⟩
  rcases h with h | ⟨g, cap, cur, hv, hb, hh, h1, h2, h3, h4⟩
  · exact .inl h
  · refine .inr ⟨g, cap, cur, hv, hb, ?_, h1, h2, h3, h4⟩
    rw [Below.heap_setCell w p u g (hp g (by rw [hv]; rfl))]
    exact hh

/-- The state of a pass that visits a fodder: c: the pass's block; p: the fodder's variable; X: what it may turn. -/
structure St (w wr : World) (X : Nat → Prop) (base c p : Nat) (v : Value) (S : Nat → Prop) (cv : Value) (els : List El) (L : List LE) : Prop where
  fr : Fr w wr X
  bc : Blk wr c 60 #[cv]
  bp : Blk wr p 26 #[v]
  ar : ElsAre wr S els L
  own : wr.ownsRow base 50 4 cv els.length (cellsF els)
  row : ∀ q, cv.ownBlock = some q → (X q ∨ w.heap.size ≤ q) ∧ q ≠ c ∧ q ≠ p
  oks : ∀ b, S b → b < w.heap.size ∧ ¬ X b
  okc : X c ∧ c < w.heap.size ∧ X p ∧ p < w.heap.size ∧ c ≠ p ∧ base ≤ w.heap.size

section
variable {w wr : World} {X : Nat → Prop} {base c p : Nat} {v : Value} {S : Nat → Prop} {cv : Value} {els : List El} {L : List LE}
theorem St.alloc (h : St w wr X base c p v S cv els L) (o : Obj) : St w (wr.alloc o) X base c p v S cv els L :=
  ⟨h.fr.alloc o, h.bc.alloc o, h.bp.alloc o, h.ar.keep (Agree.alloc S wr o fun b hb => Nat.lt_of_lt_of_le (h.oks b hb).1 h.fr.size), h.own.alloc o, h.row, h.oks, h.okc⟩
theorem St.drew (h : St w wr X base c p v S cv els L) : St w wr.drew X base c p v S cv els L := ⟨h.fr.drew, h.bc, h.bp, h.ar.keep (Agree.drew S wr), h.own, h.row, h.oks, h.okc⟩
theorem St.grownC {w2 : World} (h : St w wr X base c p v S cv els L) (hg : wr.grownBy w2 cv.ownBlock) : Blk w2 c 60 #[cv] ∧ Blk w2 p 26 #[v] :=
  ⟨h.bc.grown hg (fun e => (h.row c e.symm).2.1 rfl), h.bp.grown hg (fun e => (h.row p e.symm).2.2 rfl)⟩
theorem St.app {w2 : World} {g cap : Nat} {el : El} {e : LE} (h : St w wr X base c p v S cv els L) (he : ElIs wr S el e) (ho : w2.ownsRow base 50 4 (.slice (some ⟨g, 0, none⟩) (els.length + 1) cap) (els.length + 1) (cellsF els ++ el.cells))
    (hg : wr.grownBy w2 cv.ownBlock) (hw : cv.ownBlock = some g ∨ g = wr.heap.size) :
    St w (w2.setCell ⟨c, 0, none⟩ (.slice (some ⟨g, 0, none⟩) (els.length + 1) cap)) X base c p v S (.slice (some ⟨g, 0, none⟩) (els.length + 1) cap) (els ++ [el]) (L ++ [e]) := by
  have hsz := h.fr.size
  have hgr : (X g ∨ w.heap.size ≤ g) ∧ g ≠ c ∧ g ≠ p := by
    rcases hw with h1 | h1
    · exact h.row g h1
    · have h2 := h.bc.lt
      have h3 := h.bp.lt
      exact ⟨.inr (by omega), by omega, by omega⟩
  obtain ⟨b1, b2⟩ := h.grownC hg
  have ag : Agree S wr w2 := Agree.of_grown hg fun b hb => ⟨Nat.lt_of_lt_of_le (h.oks b hb).1 hsz, fun e => by rcases (h.row b e.symm).1 with h1 | h1; exact (h.oks b hb).2 h1; have := (h.oks b hb).1; omega⟩
  have ag2 : Agree S w2 (w2.setCell ⟨c, 0, none⟩ (.slice (some ⟨g, 0, none⟩) (els.length + 1) cap)) := Agree.setCell S w2 _ _ fun hc => (h.oks c hc).2 h.okc.1
  refine ⟨(h.fr.grown hg fun q hq => (h.row q hq).1).setCell _ _ (.inl h.okc.1), ?_, ?_, ?_, ?_, ?_, h.oks, h.okc⟩
  · have := b1.set 0 (.slice (some ⟨g, 0, none⟩) (els.length + 1) cap)
    simpa using this
  · exact b2.far (p := ⟨c, 0, none⟩) (fun e => h.okc.2.2.2.2.1 e.symm) _
  · exact ElsAre.snoc ((h.ar.keep ag).keep ag2) ((he.keep ag).keep ag2)
  · have : cellsF (els ++ [el]) = cellsF els ++ el.cells := by rw [cellsF_append]; simp [cellsF]
    rw [this, List.length_append]
    exact own_set ho _ _ fun q hq => by
      injection hq with hq
      rw [← hq]
      exact hgr.2.1
  · intro q hq
    injection hq with hq
    rw [← hq]
    exact hgr
theorem St.clear (h : St w wr X base c p v S cv els L) (u : Value) : St w (wr.setCell ⟨p, 0, none⟩ u) X base c p u S cv els L := by
  have ag2 : Agree S wr (wr.setCell ⟨p, 0, none⟩ u) := Agree.setCell S wr _ _ fun hc => (h.oks p hc).2 h.okc.2.2.1
  refine ⟨h.fr.setCell _ _ (.inl h.okc.2.2.1), h.bc.far (p := ⟨p, 0, none⟩) (fun e => h.okc.2.2.2.2.1 e) _, ?_, h.ar.keep ag2, own_set h.own _ _ fun q hq => (h.row q hq).2.2, h.row, h.oks, h.okc⟩
  have := h.bp.set 0 u
  simpa using this
theorem St.len (h : St w wr X base c p v S cv els L) : els.length = L.length := h.ar.1
end
end Go.Proofs.Ytofhjpmkpgbgiaa
