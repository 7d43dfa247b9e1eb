/- Plain words on memory that all proofs of this seat use: rows of cells that can be read, blocks that are known whole, regions that end in one write. -/
import Derived.Test.YtljfgplccnaboaaFmtProg
import Derived.WalkKit
import Derived.RegionTactic
import Derived.ChangeAlike
import Derived.Deep.QuietTactic
import Derived.BigQuiet
import Derived.WalkLawsBesides
import Derived.WalkSpells
import Derived.RowKit3
import Derived.Lib.Hide
import Derived.Handy
import Derived.WalkSmall
import Derived.StillTailTactics
import Derived.Laws.OwnMore
import Derived.Deep.Draws
import Derived.Laws.Rows
import Derived.Laws.MakeOwn
namespace Go.Proofs.YtljfgplccnaboaaFmt
open Go.RowKit

/-- A region that draws its order: the first n operations leave the world alone, the others follow in one order. -/
theorem wp_region_tail {P : Program} {id : Nat} {Q : Exit → Act → World → Prop} {a : Act} {w : World} {l : List Oper} (n : Nat) (hm : P.follows .mixedOrders = true) (hB : Region.lexTailB .any l.toArray n = true)
    (h : wpStill P l.toArray w.drew (fun a' => wpList P l.toArray Q (l.drop n) a' w.drew) (l.take n) a) : (Code.region id l.toArray true).wp P Q a w :=
  wp_region_still_tail n hm hB h

/-! ### rows that can be read -/

/-- The cells xs can be read: there are none, or they lie from an address below block B on. -/
def Rd (w : World) (B : Nat) (a : Option Addr) (xs : List Value) : Prop :=
  xs = [] ∨ ∃ b off, a = some ⟨b, off, none⟩ ∧ b < B ∧ ∀ i u, xs[i]? = some u → w.cell? ⟨b, off + i, none⟩ = some u

theorem Rd.nil (w : World) (B : Nat) (a : Option Addr) : Rd w B a [] := .inl rfl
theorem Rd.pos {w : World} {B : Nat} {a : Option Addr} {xs : List Value} (h : Rd w B a xs) (hl : 0 < xs.length) :
    ∃ b off, a = some ⟨b, off, none⟩ ∧ b < B ∧ ∀ i u, xs[i]? = some u → w.cell? ⟨b, off + i, none⟩ = some u := by
  rcases h with h | h
  · simp [h] at hl
  · exact h
theorem Rd.keep {w w' : World} {B : Nat} {a : Option Addr} {xs : List Value} (h : Rd w B a xs) (hk : ∀ b o, b < B → w'.cell? ⟨b, o, none⟩ = w.cell? ⟨b, o, none⟩) : Rd w' B a xs := by
  rcases h with h | ⟨b, off, ha, hb, hc⟩
  · exact .inl h
  · exact .inr ⟨b, off, ha, hb, fun i u hu => (hk _ _ hb).trans (hc i u hu)⟩
theorem Rd.below {w w' : World} {B : Nat} {a : Option Addr} {xs : List Value} (h : Rd w B a xs) (hb : Below B w w') : Rd w' B a xs := h.keep fun b o hk => hb.cell (p := ⟨b, o, none⟩) hk
theorem Rd.mono {w : World} {B B' : Nat} {a : Option Addr} {xs : List Value} (h : Rd w B a xs) (hB : B ≤ B') : Rd w B' a xs := by
  rcases h with h | ⟨b, off, ha, hb, hc⟩
  · exact .inl h
  · exact .inr ⟨b, off, ha, Nat.lt_of_lt_of_le hb hB, hc⟩

/-! ### blocks that are known whole -/

/-- Block g is just the cells cs, of element type t, none frozen. -/
def Blk (w : World) (g : Nat) (t : TypeId) (cs : Array Value) : Prop := w.heap[g]? = some (.cells cs t (0, 0))

theorem Blk.lt {w : World} {g : Nat} {t : TypeId} {cs : Array Value} (h : Blk w g t cs) : g < w.heap.size := by
  rcases Nat.lt_or_ge g w.heap.size with hl | hl
  · exact hl
  · rw [Blk, Array.getElem?_eq_none hl] at h
    cases h
theorem Blk.cell {w : World} {g : Nat} {t : TypeId} {cs : Array Value} (h : Blk w g t cs) (i : Nat) : w.cell? ⟨g, i, none⟩ = cs[i]? := cell_of_row w g i cs t (0, 0) h
theorem Blk.free {w : World} {g : Nat} {t : TypeId} {cs : Array Value} (h : Blk w g t cs) (i : Nat) : w.frozen? ⟨g, i, none⟩ = false := by
  simp [World.frozen?, show w.heap[g]? = some (.cells cs t (0, 0)) from h]
theorem Blk.new (w : World) (t : TypeId) (cs : Array Value) : Blk (w.alloc (.cells cs t)) w.heap.size t cs := heap_alloc_new w _
theorem Blk.alloc {w : World} {g : Nat} {t : TypeId} {cs : Array Value} (h : Blk w g t cs) (o : Obj) : Blk (w.alloc o) g t cs := (Below.heap_alloc w o g h.lt).trans h
theorem Blk.drew {w : World} {g : Nat} {t : TypeId} {cs : Array Value} (h : Blk w g t cs) : Blk w.drew g t cs := h
theorem Blk.drewN {w : World} {g : Nat} {t : TypeId} {cs : Array Value} (h : Blk w g t cs) (n : Nat) : Blk (w.drewN n) g t cs := h
theorem Blk.far {w : World} {g : Nat} {t : TypeId} {cs : Array Value} (h : Blk w g t cs) {p : Addr} (hp : g ≠ p.block) (u : Value) : Blk (w.setCell p u) g t cs := (Below.heap_setCell w p u g hp).trans h
theorem Blk.set {w : World} {g : Nat} {t : TypeId} {cs : Array Value} (h : Blk w g t cs) (i : Nat) (u : Value) : Blk (w.setCell ⟨g, i, none⟩ u) g t (cs.setIfInBounds i u) := by
  simp [Blk, World.setCell, Array.getElem?_modify, show w.heap[g]? = some (.cells cs t (0, 0)) from h]
theorem Blk.below {w w' : World} {B g : Nat} {t : TypeId} {cs : Array Value} (h : Blk w g t cs) (hb : Below B w w') (hg : g < B) : Blk w' g t cs := (hb.block g hg).trans h
theorem Blk.under {w w' : World} {g : Nat} {t : TypeId} {cs : Array Value} (h : Blk w g t cs) (hb : Below w.heap.size w w') : Blk w' g t cs := h.below hb h.lt
theorem Blk.grown {w w' : World} {g : Nat} {t : TypeId} {cs : Array Value} {row : Option Nat} (h : Blk w g t cs) (hb : w.grownBy w' row) (hg : some g ≠ row) : Blk w' g t cs := (hb.block g h.lt hg).trans h
theorem Blk.rd {w : World} {g : Nat} {t : TypeId} {cs : Array Value} (h : Blk w g t cs) (B : Nat) (hB : g < B) : Rd w B (some ⟨g, 0, none⟩) cs.toList :=
  .inr ⟨g, 0, rfl, hB, fun i u hu => by rw [h.cell]; simpa using hu⟩

/-! ### what a step keeps -/

theorem bel_new {B : Nat} {w0 w w' : World} {o : Obj} (h : Below B w0 w) (k : Below (w.alloc o).heap.size (w.alloc o) w') (hB : B ≤ w.heap.size) : Below B w0 w' ∧ B ≤ w'.heap.size := by
  have e : (w.alloc o).heap.size = w.heap.size + 1 := by simp
  refine ⟨(h.alloc hB o).trans (k.mono (by omega)), ?_⟩
  have := k.size
  omega
theorem bel_old {B : Nat} {w0 w w' : World} (h : Below B w0 w) (k : Below w.heap.size w w') (hB : B ≤ w.heap.size) : Below B w0 w' ∧ B ≤ w'.heap.size :=
  ⟨h.trans (k.mono hB), Nat.le_trans hB k.size⟩
theorem size1 (w : World) (o : Obj) : (w.alloc o).heap.size = w.heap.size + 1 := by simp
theorem bcell {W w1 : World} (hb : Below W.heap.size W w1) : (∀ b o, b < W.heap.size → w1.cell? ⟨b, o, none⟩ = W.cell? ⟨b, o, none⟩) ∧ (∀ b o, b < W.heap.size → w1.frozen? ⟨b, o, none⟩ = W.frozen? ⟨b, o, none⟩) :=
  ⟨fun b o h => hb.cell (p := ⟨b, o, none⟩) h, fun b o h => hb.frozen (p := ⟨b, o, none⟩) h⟩

/-- make with a known length and capacity, for elements of any number of cells. -/
theorem run_make_n {P : Program} (t e : TypeId) (i : TypeInfo) (z : Value) (ht : P.underlying t = some (.slice e)) (hi : P.info? e = some i) (hz : i.zero = some z)
    (kl kc : IntKind) (n c : Nat) (hnc : n ≤ c) (hbytes : i.bytes * c ≤ 281474976710656) (h63 : c ≤ 9223372036854775807) (w : World) :
    (Instr.makeSlice t (.int kl (n : Int)) (.int kc (c : Int))).run P w = .ok (.slice (some ⟨w.heap.size, 0, none⟩) n c) (w.alloc (.cells (madeCells z.cells (c * i.size)) e)) := by
  have hb : (i.bytes : Int) * (c : Int) ≤ 281474976710656 := by
    have h : ((i.bytes * c : Nat) : Int) ≤ 281474976710656 := by omega
    rwa [Int.natCast_mul] at h
  simpa using run_make (P := P) w t e i z ht hi hz kl kc n c (by omega) (by omega) hb (by omega)

theorem ret_bool {a b : Bool} (h : a = b) : Ending.returned (.bool a) = .returned (.bool b) := by rw [h]
end Go.Proofs.YtljfgplccnaboaaFmt
