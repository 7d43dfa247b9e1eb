/- How the arguments of this seat's laws read: slices of integers and of strings, opened to rows of cells. -/
import Derived.Test.YtljfgplccnaboaaFmtCom
import Derived.ProofKit
import Derived.OpenShut
import Derived.SliceStrings
namespace Go.Proofs.YtljfgplccnaboaaFmt
open Go.RowKit Go.ChangeShapes Go.WideShapes

/-- A slice of integers that came in. -/
def IsInts (w : World) (a : Option Addr) (len cap : Nat) (zs : List Int) : Prop :=
  zs.length = len ∧ len ≤ cap ∧ cap ≤ maxLen ∧ (a = none → cap = 0) ∧ (∀ z ∈ zs, (Lit.int .i64 z).wf = true) ∧ Rd w w.heap.size a (zs.map (Value.int .i64))

/-- A slice of strings that came in. -/
def IsStrs (w : World) (a : Option Addr) (len cap : Nat) (ss : List ByteArray) : Prop :=
  ss.length = len ∧ len ≤ cap ∧ cap ≤ maxLen ∧ (a = none → cap = 0) ∧ (∀ s ∈ ss, s.size ≤ maxLen) ∧ Rd w w.heap.size a (ss.map Value.string)

theorem rd_of_cells {w : World} {x : Addr} {xs : List Value} (h : ∀ i u, xs[i]? = some u → w.cell? (x.add i) = some u) : Rd w w.heap.size (some x) xs := by
  cases xs with
  | nil => exact .inl rfl
  | cons u us =>
    obtain ⟨b, off, spot⟩ := x
    have h0 := h 0 u rfl
    have hspot : spot = none := by simpa [Addr.add] using World.cell?_spot h0
    subst hspot
    refine .inr ⟨b, off, rfl, World.block_lt_of_cell? w _ h0, fun i v hv => ?_⟩
    rw [← Go.WideShapes.add_plain]
    exact h i v hv

section
variable {H : Type} {enc : TypeId × Value → H} {P : Program} {W : World}

theorem open_intsR {t e : TypeId} (ht : P.underlying t = some (.slice e)) (he : P.underlying e = some (.int .i64)) (hc : P.cellsOf e = 1)
    {a : Option Addr} {len cap : Nat} {d : DataW H} {p : List MemPlace} (h : DataW.Trod enc P W 0 (fun _ => true) true t (.slice a len cap) d p) : ∃ zs, IsInts W a len cap zs := by
  obtain ⟨fuel, hf⟩ := h
  rcases open_ints ht he hc hf with ⟨hcs, _⟩ | ⟨x, l, c, zs, hcs, _, hl, hm, hz, _, hcell, hwz⟩
  · simp [Value.cells] at hcs
    obtain ⟨rfl, rfl, rfl⟩ := hcs
    exact ⟨[], rfl, Nat.le_refl _, Nat.zero_le _, fun _ => rfl, by simp, .inl rfl⟩
  · simp [Value.cells] at hcs
    obtain ⟨rfl, rfl, rfl⟩ := hcs
    have hz' : zs.length = cap := by simpa using hz
    refine ⟨zs.take len, by simp [hz']; omega, hl, hm, (by intro h; cases h), fun z hzm => hwz z (List.mem_of_mem_take hzm), rd_of_cells fun i u hu => ?_⟩
    simp only [List.getElem?_map, Option.map_eq_some_iff] at hu
    obtain ⟨z, hzi, rfl⟩ := hu
    rw [List.getElem?_take] at hzi
    split at hzi
    · have hi : i < zs.length := by omega
      rw [hcell i hi]
      rw [List.getElem?_eq_getElem hi] at hzi
      simp [List.getElem?_eq_getElem hi, Option.some.inj hzi]
    · cases hzi

theorem open_strsR {t e : TypeId} (ht : P.underlying t = some (.slice e)) (he : P.underlying e = some .string) (hc : P.cellsOf e = 1)
    {a : Option Addr} {len cap : Nat} {d : DataW H} {p : List MemPlace} (h : DataW.Trod enc P W 0 (fun _ => true) true t (.slice a len cap) d p) : ∃ ss, IsStrs W a len cap ss := by
  obtain ⟨fuel, hf⟩ := h
  rcases open_strings ht he hc hf with ⟨hcs, _⟩ | ⟨x, l, c, ss, hcs, _, hl, hm, hz, _, hcell, hws⟩
  · simp [Value.cells] at hcs
    obtain ⟨rfl, rfl, rfl⟩ := hcs
    exact ⟨[], rfl, Nat.le_refl _, Nat.zero_le _, fun _ => rfl, by simp, .inl rfl⟩
  · simp [Value.cells] at hcs
    obtain ⟨rfl, rfl, rfl⟩ := hcs
    have hz' : ss.length = cap := by simpa using hz
    refine ⟨ss.take len, by simp [hz']; omega, hl, hm, (by intro h; cases h), fun z hzm => hws z (List.mem_of_mem_take hzm), rd_of_cells fun i u hu => ?_⟩
    simp only [List.getElem?_map, Option.map_eq_some_iff] at hu
    obtain ⟨z, hzi, rfl⟩ := hu
    rw [List.getElem?_take] at hzi
    split at hzi
    · have hi : i < ss.length := by omega
      rw [hcell i hi]
      rw [List.getElem?_eq_getElem hi] at hzi
      simp [List.getElem?_eq_getElem hi, Option.some.inj hzi]
    · cases hzi
end
end Go.Proofs.YtljfgplccnaboaaFmt
