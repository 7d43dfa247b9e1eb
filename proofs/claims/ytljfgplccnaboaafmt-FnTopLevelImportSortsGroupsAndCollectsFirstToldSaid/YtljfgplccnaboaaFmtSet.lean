/- Sets of strings in memory, read as lists without repeats: the plain side and the small methods. -/
import Derived.Test.YtljfgplccnaboaaFmtArgs
import Derived.Maps.OwnSet
import Derived.Maps.RangeWalk
import Derived.Maps.Ext
namespace Go.Proofs.YtljfgplccnaboaaFmt
open Go.RowKit Go.Maps
set_option linter.unusedVariables false

def kl (s : ByteArray) : Lit := .string s.data.toList
theorem kl_inj {a b : ByteArray} (h : kl a = kl b) : a = b := by
  unfold kl at h
  injection h with h
  obtain ⟨⟨a⟩⟩ := a
  obtain ⟨⟨b⟩⟩ := b
  simp at h
  rw [h]
theorem kl_key (s : ByteArray) : WideAt.IsKeyLit (kl s) := by
  unfold kl
  trivial
/-- Is the string on the list? -/
def mem (ks : List ByteArray) (s : ByteArray) : Bool := ks.any fun x => decide (x = s)
theorem mem_iff (ks : List ByteArray) (s : ByteArray) : mem ks s = true ↔ s ∈ ks := by simp [mem]
theorem mem_not (ks : List ByteArray) (s : ByteArray) : mem ks s = false ↔ s ∉ ks := by
  rw [← mem_iff]
  simp
theorem mem_append (a b : List ByteArray) (s : ByteArray) : mem (a ++ b) s = (mem a s || mem b s) := by simp [mem]
theorem mem_one (a s : ByteArray) : mem [a] s = decide (a = s) := by simp [mem]
/-- The datum is the set of just these strings. -/
def Holds (D : DataW Unit) (ks : List ByteArray) : Prop := ks.Nodup ∧ Maps.size D = ks.length ∧ Tidy D ∧ ∀ s : ByteArray, Maps.has D (kl s) = mem ks s
theorem Holds.nil : Holds (.map []) [] := ⟨List.nodup_nil, rfl, tidy_empty, fun s => by simp [Maps.has, mem]⟩
theorem Holds.new {D : DataW Unit} {ks : List ByteArray} (h : Holds D ks) (s : ByteArray) (d : DataW Unit) (hs : mem ks s = false) : Holds (D.put (kl s) d) (ks ++ [s]) := by
  obtain ⟨h1, h2, h3, h4⟩ := h
  refine ⟨?_, ?_, h3.put (kl_key s) d, fun x => ?_⟩
  · rw [List.nodup_append]
    exact ⟨h1, by simp, fun a ha b hb => by rintro rfl; simp at hb; subst hb; exact (mem_not _ _).1 hs ha⟩
  · rw [size_put h3, h4 s, hs, if_neg (by simp), h2, List.length_append]
    rfl
  · by_cases hx : x = s
    · subst hx
      rw [has_put_same h3.isMap (kl_key x), mem_append, mem_one]
      simp
    · rw [has_put_other (fun e => hx (kl_inj e)), h4 x, mem_append, mem_one]
      rw [decide_eq_false (fun e : s = x => hx e.symm), Bool.or_false]
theorem Holds.del {D : DataW Unit} {ks : List ByteArray} (h : Holds D ks) (s : ByteArray) : Holds (D.del (kl s)) (ks.filter (fun x => decide (x ≠ s))) := by
  obtain ⟨h1, h2, h3, h4⟩ := h
  refine ⟨h1.filter _, ?_, h3.del _, fun x => ?_⟩
  · by_cases hs' : mem ks s = true
    · have h5 := size_del h3 (k := kl s)
      rw [h4 s, hs'] at h5
      have hs := (mem_iff _ _).1 hs'
      have h6 : (ks.filter (fun x => decide (x ≠ s))).length + 1 = ks.length := by
        clear h2 h3 h4 h5 hs'
        induction ks with
        | nil => cases hs
        | cons a l ih =>
          obtain ⟨ha, hl⟩ := List.nodup_cons.1 h1
          by_cases e : a = s
          · subst e
            have : l.filter (fun x => decide (x ≠ a)) = l := List.filter_eq_self.2 fun x hx => by
              simp
              rintro rfl
              exact ha hx
            rw [List.filter_cons_of_neg (by simp), this, List.length_cons]
          · have hs' : s ∈ l := by
              rcases List.mem_cons.1 hs with h | h
              · exact absurd h.symm e
              · exact h
            have := ih hl hs'
            rw [List.filter_cons_of_pos (by simpa using e), List.length_cons, List.length_cons]
            omega
      simp at h5
      omega
    · have hs : s ∉ ks := fun h => hs' ((mem_iff _ _).2 h)
      rw [del_of_not_has (by rw [h4 s]; simpa using hs'), h2]
      congr 1
      exact (List.filter_eq_self.2 fun x hx => by
        simp
        rintro rfl
        exact hs hx).symm
  · by_cases hx : x = s
    · subst hx
      rw [has_del_same]
      simp [mem]
    · rw [has_del_other (fun e => hx (kl_inj e)), h4 x, Bool.eq_iff_iff, mem_iff, mem_iff]
      simp [hx]
end Go.Proofs.YtljfgplccnaboaaFmt
