/- The methods of a set of identifiers, by their contracts. -/
import Derived.Test.YtnmedoekbcbgbaaSet
namespace Go.Proofs.Ytnmedoekbcbgbaa
open Go.RowKit Go.Maps
set_option linter.unusedVariables false

theorem law29 : Keyed Try.prog 29 := string_keyed Try.underlying29
theorem zero37 (w : World) : (zeroValue 37).run Try.prog w = .ok (.agg #[]) w := by kernel_rfl

def SetIs (w : World) (B n : Nat) (ks : List ByteArray) : Prop := ∃ D : DataW Unit, w.ownsMap Try.prog 29 unitElem B n D ∧ Holds D ks
theorem SetIs.lt {w : World} {B n : Nat} {ks : List ByteArray} (h : SetIs w B n ks) : B < w.heap.size := by
  obtain ⟨D, h1, h2⟩ := h
  exact h1.lt
theorem SetIs.kept {w w' : World} {B n : Nat} {ks : List ByteArray} {row : Option Nat} (h : SetIs w B n ks) (hg : w.grownBy w' row) (hne : some B ≠ row) : SetIs w' B n ks := by
  obtain ⟨D, h1, h2⟩ := h
  exact ⟨D, h1.kept hg hne, h2⟩
theorem grown_below {w w' : World} (h : Below w.heap.size w w') (row : Option Nat) : w.grownBy w' row := ⟨h.os, h.tape, h.output, h.size, fun i hi _ => h.block i hi⟩
theorem SetIs.below {w w' : World} {B n : Nat} {ks : List ByteArray} (h : SetIs w B n ks) (hb : Below w.heap.size w w') : SetIs w' B n ks := h.kept (grown_below hb none) (by simp)
theorem SetIs.mono {w : World} {B n n' : Nat} {ks : List ByteArray} (h : SetIs w B n ks) (hn : n ≤ n') : SetIs w B n' ks := by
  obtain ⟨D, h1, h2⟩ := h
  exact ⟨D, h1.mono hn, h2⟩
def addS (ks : List ByteArray) (s : ByteArray) : List ByteArray := if mem ks s then ks else ks ++ [s]

def Added (w : World) (B n : Nat) (ks : List ByteArray) (s : ByteArray) (e : Ending) (w' : World) : Prop := ∃ r, e = .returned (.bool r) ∧ SetIs w' B (n + 1) (addS ks s) ∧ w.grownBy w' (some B)
set_option maxRecDepth 100000 in
theorem add_any (w : World) (B n : Nat) (ks : List ByteArray) (s : ByteArray) (h : SetIs w B n ks) (hs : s.size ≤ maxLen) (hn : n < 1000000) : Calls Try.prog 8 #[.map (some B), .string s] w (Added w B n ks s) := by
  obtain ⟨D, hown, hh⟩ := h
  have hkey : keyOf Try.prog 29 (.string s) = some (kl s) := Go.WideMaps.keyOf_string_mk Try.underlying29 hs
  have hB := hown.lt
  have hhas := hh.2.2.2 s
  have HH := Lib.hid hh
  clear hh
  cases hm : mem ks s
  · rw [hm] at hhas
    have HM := Lib.hid hm
    clear hm
    unfold Added
    go_enter Try.func8, Try.ntmps8
    go_wp2_with (first
      | (at_lookup; refine wpList_lookup_own_unit _ rfl _ _ 26 rfl 29 37 law29 Try.underlying26 (zero37 _) B n _ rfl hown _ _ rfl hkey ?_)
      | (at_mapUpdate; refine wpList_mapUpdate_own _ rfl _ _ _ 26 rfl 29 37 law29 Try.underlying26 (unitElem (H := Unit)) B n _ rfl (hown.alloc _) (by unfold maxLen; omega) _ _ _ rfl rfl hkey _ [] unitElem_mk ?_; intro w1 hown1 hgrow1)
      | fail)
    go_ret
    exact ⟨true, rfl, ⟨_, hown1, by unfold addS; rw [HM.out]; exact HH.out.new s _ HM.out⟩, (World.grownBy_alloc w _ _).trans hgrow1⟩
  · rw [hm] at hhas
    have HM := Lib.hid hm
    clear hm
    unfold Added
    go_enter Try.func8, Try.ntmps8
    go_wp2_with (first
      | (at_lookup; refine wpList_lookup_own_unit _ rfl _ _ 26 rfl 29 37 law29 Try.underlying26 (zero37 _) B n _ rfl hown _ _ rfl hkey ?_)
      | fail)
    go_ret
    exact ⟨false, rfl, ⟨_, (hown.alloc _).mono (by omega), by unfold addS; rw [HM.out]; exact HH.out⟩, World.grownBy_alloc w _ _⟩

def Asked (w : World) (b : Bool) (e : Ending) (w' : World) : Prop := e = .returned (.bool b) ∧ Below w.heap.size w w'
set_option maxRecDepth 100000 in
theorem contains_any (w : World) (B n : Nat) (ks : List ByteArray) (s : ByteArray) (h : SetIs w B n ks) (hs : s.size ≤ maxLen) : Calls Try.prog 11 #[.map (some B), .string s] w (Asked w (mem ks s)) := by
  obtain ⟨D, hown, hh⟩ := h
  have hkey : keyOf Try.prog 29 (.string s) = some (kl s) := Go.WideMaps.keyOf_string_mk Try.underlying29 hs
  have hB := hown.lt
  rw [← hh.2.2.2 s]
  unfold Asked
  clear hh
  go_enter Try.func11, Try.ntmps11
  go_wp2_with (first
    | (at_lookup; refine wpList_lookup_own_unit _ rfl _ _ 26 rfl 29 37 law29 Try.underlying26 (zero37 _) B n _ rfl hown _ _ rfl hkey ?_)
    | fail)
  go_ret
  exact ⟨rfl, (Below.refl _ _).alloc (Nat.le_refl _) _⟩

def dropS (ks : List ByteArray) (s : ByteArray) : List ByteArray := ks.filter (fun x => decide (x ≠ s))
def Removed (w : World) (B n : Nat) (ks : List ByteArray) (s : ByteArray) (e : Ending) (w' : World) : Prop := e = .returned (.tuple #[]) ∧ SetIs w' B n (dropS ks s) ∧ w.grownBy w' (some B)
set_option maxRecDepth 100000 in
theorem remove_any (w : World) (B n : Nat) (ks : List ByteArray) (s : ByteArray) (h : SetIs w B n ks) (hs : s.size ≤ maxLen) : Calls Try.prog 14 #[.map (some B), .string s] w (Removed w B n ks s) := by
  obtain ⟨D, hown, hh⟩ := h
  have hkey : keyOf Try.prog 29 (.string s) = some (kl s) := Go.WideMaps.keyOf_string_mk Try.underlying29 hs
  have hB := hown.lt
  have HH := Lib.hid hh
  clear hh
  unfold Removed
  go_enter Try.func14, Try.ntmps14
  go_wp2_with (first
    | (at_delete; refine wpList_delete_own _ rfl _ _ 26 29 rfl 37 law29 Try.underlying26 (unitElem (H := Unit)) B n _ rfl hown _ _ rfl hkey ?_; intro w1 hown1 hturn1)
    | fail)
  go_end0
  exact ⟨rfl, ⟨_, hown1, HH.out.del s⟩, hturn1.grown⟩

def NewSet (w : World) (ks : List ByteArray) (n : Nat) (e : Ending) (w' : World) : Prop := e = .returned (.map (some w.heap.size)) ∧ SetIs w' w.heap.size n ks ∧ Below w.heap.size w w'
set_option maxRecDepth 100000 in
theorem newset_any (w : World) : Calls Try.prog 7 #[.slice none 0 0] w (NewSet w [] 0) := by
  have hmm := @run_makeMap Try.prog
  unfold NewSet
  go_enter Try.func7, Try.ntmps7
  go_wp2
  refine wp_loop_rounds 1 ?_
  rw [rounds_succ]
  go_wp2
  go_ret
  exact ⟨rfl, ⟨.map [], World.ownsMap_made _ _ _ _, Holds.nil⟩, (Below.refl _ _).alloc (Nat.le_refl _) _⟩
end Go.Proofs.Ytnmedoekbcbgbaa
