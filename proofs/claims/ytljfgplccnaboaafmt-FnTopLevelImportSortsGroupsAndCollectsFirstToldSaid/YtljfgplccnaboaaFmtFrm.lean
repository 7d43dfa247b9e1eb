/- What a step leaves of the rest of memory. -/
import Derived.Test.YtljfgplccnaboaaFmtCom
namespace Go.Proofs.YtljfgplccnaboaaFmt
open Go.RowKit

/-- All but the blocks of X is as it was. -/
structure Fr (w w' : World) (X : Nat → Prop) : Prop where
  os : w'.os = w.os
  tape : w'.tape = w.tape
  output : w'.output = w.output
  size : w.heap.size ≤ w'.heap.size
  block : ∀ b, b < w.heap.size → ¬ X b → w'.heap[b]? = w.heap[b]?
theorem Fr.refl (w : World) (X : Nat → Prop) : Fr w w X := ⟨rfl, rfl, rfl, Nat.le_refl _, fun _ _ _ => rfl⟩
theorem Fr.alloc {w w' : World} {X : Nat → Prop} (h : Fr w w' X) (o : Obj) : Fr w (w'.alloc o) X :=
  ⟨h.os, h.tape, h.output, by have := h.size; simp; omega, fun b hb hx => (Below.heap_alloc w' o b (Nat.lt_of_lt_of_le hb h.size)).trans (h.block b hb hx)⟩
theorem Fr.drew {w w' : World} {X : Nat → Prop} (h : Fr w w' X) : Fr w w'.drew X := ⟨h.os, h.tape, h.output, h.size, h.block⟩
theorem Fr.grown {w w' w2 : World} {X : Nat → Prop} {row : Option Nat} (h : Fr w w' X) (hg : w'.grownBy w2 row) (hr : ∀ q, row = some q → X q ∨ w.heap.size ≤ q) : Fr w w2 X :=
  ⟨hg.os.trans h.os, hg.tape.trans h.tape, hg.output.trans h.output, Nat.le_trans h.size hg.size, fun b hb hx => (hg.block b (Nat.lt_of_lt_of_le hb h.size) (fun e => by rcases hr b e.symm with h1 | h1; exact hx h1; omega)).trans (h.block b hb hx)⟩
theorem Fr.setCell {w w' : World} {X : Nat → Prop} (h : Fr w w' X) (p : Addr) (u : Value) (hp : X p.block ∨ w.heap.size ≤ p.block) : Fr w (w'.setCell p u) X :=
  ⟨h.os, h.tape, h.output, by simpa using h.size, fun b hb hx => (Below.heap_setCell w' p u b (fun e => by rcases hp with h1 | h1; exact hx (e ▸ h1); omega)).trans (h.block b hb hx)⟩
theorem Fr.below {w0 w w' : World} {X : Nat → Prop} {B : Nat} (h0 : Below B w0 w) (h : Fr w w' X) (hB : B ≤ w.heap.size) (hX : ∀ b, X b → B ≤ b) : Below B w0 w' :=
  h0.trans ⟨h.os, h.tape, h.output, h.size, fun b hb => h.block b (Nat.lt_of_lt_of_le hb hB) (fun hx => by have := hX b hx; omega)⟩
theorem Fr.blk {w w' : World} {X : Nat → Prop} (h : Fr w w' X) {g : Nat} {t : TypeId} {cs : Array Value} (hb : Blk w g t cs) (hX : ¬ X g) : Blk w' g t cs := (h.block g hb.lt hX).trans hb
theorem Fr.sub {w w' : World} {X Y : Nat → Prop} (h : Fr w w' X) (hs : ∀ b, X b → Y b) : Fr w w' Y := ⟨h.os, h.tape, h.output, h.size, fun b hb hy => h.block b hb fun hx => hy (hs b hx)⟩
theorem Fr.trans {w w1 w2 : World} {X : Nat → Prop} (h : Fr w w1 X) (k : Fr w1 w2 X) : Fr w w2 X := ⟨k.os.trans h.os, k.tape.trans h.tape, k.output.trans h.output, Nat.le_trans h.size k.size, fun b hb hx => (k.block b (Nat.lt_of_lt_of_le hb h.size) hx).trans (h.block b hb hx)⟩
theorem Fr.of_below {w w' : World} (h : Below w.heap.size w w') (X : Nat → Prop) : Fr w w' X := ⟨h.os, h.tape, h.output, h.size, fun b hb _ => h.block b hb⟩

theorem Fr.step {w w1 w2 : World} {X Y : Nat → Prop} (h : Fr w w1 X) (k : Fr w1 w2 Y) (hy : ∀ b, b < w.heap.size → Y b → X b) : Fr w w2 X :=
  ⟨k.os.trans h.os, k.tape.trans h.tape, k.output.trans h.output, Nat.le_trans h.size k.size, fun b hb hx => (k.block b (Nat.lt_of_lt_of_le hb h.size) fun hk => hx (hy b hb hk)).trans (h.block b hb hx)⟩
theorem Fr.of_grown {w w' : World} {row : Option Nat} (h : w.grownBy w' row) : Fr w w' (fun b => some b = row) := ⟨h.os, h.tape, h.output, h.size, fun b hb hx => h.block b hb hx⟩
end Go.Proofs.YtljfgplccnaboaaFmt
