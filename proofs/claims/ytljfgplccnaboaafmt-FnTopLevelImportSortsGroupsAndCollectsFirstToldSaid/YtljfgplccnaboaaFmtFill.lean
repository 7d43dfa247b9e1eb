/- A made row that is filled from its head on. -/
import Derived.Test.YtljfgplccnaboaaFmtCom
namespace Go.Proofs.YtljfgplccnaboaaFmt
open Go.RowKit
set_option linter.unusedVariables false

/-! ### a made row that is filled from its head on -/

/-- The row Z, its first k cells overwritten by those of L. -/
def fillA (L Z : List Value) (k : Nat) : Array Value := (L.take k ++ Z.drop k).toArray
theorem fill_zero (L Z : List Value) : fillA L Z 0 = Z.toArray := by simp [fillA]
theorem fill_all (L Z : List Value) (k : Nat) (hk : L.length ≤ k) (hz : Z.length ≤ k) : fillA L Z k = L.toArray := by
  simp [fillA, List.take_of_length_le hk, List.drop_eq_nil_of_le hz]
theorem fill_size (L Z : List Value) (k : Nat) (h : Z.length = L.length) (hk : k ≤ L.length) : (fillA L Z k).size = L.length := by simp [fillA]; omega
theorem fill_old (L Z : List Value) (k i : Nat) (h : Z.length = L.length) (hi : i < k) (hk : k ≤ L.length) : (fillA L Z k)[i]? = L[i]? := by
  simp only [fillA, List.getElem?_toArray]
  rw [List.getElem?_append_left (by simp; omega), List.getElem?_take, if_pos hi]
theorem fill_new (L Z : List Value) (k i : Nat) (h : Z.length = L.length) (hi : k ≤ i) (hk : k ≤ L.length) : (fillA L Z k)[i]? = Z[i]? := by
  simp only [fillA, List.getElem?_toArray]
  rw [List.getElem?_append_right (by simp; omega), List.getElem?_drop]
  congr 1
  simp
  omega
theorem fill_set (L Z : List Value) (k : Nat) (h : Z.length = L.length) (hk : k < L.length) : (fillA L Z k).setIfInBounds k (L[k]'hk) = fillA L Z (k + 1) := by
  apply Array.ext_getElem?
  intro i
  have hs := fill_size L Z k h (by omega)
  rw [Array.getElem?_setIfInBounds]
  by_cases hik : k = i
  · subst hik
    rw [if_pos rfl, if_pos (by omega), fill_old L Z (k + 1) k h (by omega) (by omega), List.getElem?_eq_getElem hk]
  · rw [if_neg hik]
    rcases Nat.lt_or_ge i k with hl | hl
    · rw [fill_old L Z k i h hl (by omega), fill_old L Z (k + 1) i h (by omega) (by omega)]
    · rw [fill_new L Z k i h hl (by omega), fill_new L Z (k + 1) i h (by omega) (by omega)]
theorem fill_set' (L Z : List Value) (k : Nat) (u : Value) (h : Z.length = L.length) (hu : L[k]? = some u) : (fillA L Z k).setIfInBounds k u = fillA L Z (k + 1) := by
  obtain ⟨hk, he⟩ := List.getElem?_eq_some_iff.1 hu
  rw [← he]
  exact fill_set L Z k h hk
/-- The cell at k, before it is overwritten. -/
theorem fill_at {w : World} {g : Nat} {t : TypeId} {L Z : List Value} {k : Nat} (hb : Blk w g t (fillA L Z k)) (h : Z.length = L.length) (hk : k < L.length) : ∃ v, w.cell? ⟨g, k, none⟩ = some v := by
  rw [hb.cell, fill_new L Z k k h (Nat.le_refl _) (by omega), List.getElem?_eq_getElem (by omega)]
  exact ⟨_, rfl⟩

end Go.Proofs.YtljfgplccnaboaaFmt
