/- topLevelImport: what lies in memory. -/
import Derived.Test.YtljfgplccnaboaaFmtTli
import Derived.Test.YtljfgplccnaboaaFmtSml
namespace Go.Proofs.YtljfgplccnaboaaFmt
open Go.RowKit
set_option linter.unusedVariables false

/-- An element of the list: its import lies in the chain's blocks. -/
def ElC (w : World) (C : Nat → Prop) (e : IE) (p : ByteArray × ByteArray) : Prop :=
  ∃ g cg ib sb, e = mkI' g cg ib p ∧ C ib ∧ C sb ∧ Blk w ib 74 (impC sb).toArray ∧ Blk w sb 72 (litC p.1).toArray
/-- The blocks of the list's fodders. -/
def FB (es : List IE) (b : Nat) : Prop := ∃ e ∈ es, e.aa = some ⟨b, 0, none⟩
/-- The list of imports behind cell I. -/
structure Acc (w : World) (I : Nat) (C : Nat → Prop) (v : Value) (es : List IE) (ps : List (ByteArray × ByteArray)) : Prop where
  bI : Blk w I 41 #[v]
  own : w.ownsRow 0 55 14 v es.length (cellsI es)
  len : es.length = ps.length
  el : ∀ (i : Nat) (e : IE) (p : ByteArray × ByteArray), es[i]? = some e → ps[i]? = some p → ElC w C e p
  fd : ∀ e ∈ es, ElFd w e
  nd : (es.map IE.aa).Nodup
/-- What a call may turn. -/
def XT (I tb : Nat) (v : Value) (es : List IE) (b : Nat) : Prop := b = I ∨ b = tb ∨ v.ownBlock = some b ∨ FB es b
/-- The null node at the chain's end. -/
def TailAt (w : World) (S : Nat → Prop) (tb : Nat) (o : Option Nat) : Prop := ∃ fv, Blk w tb 66 (nb fv).toArray ∧ FdV w S fv o
/-- Blocks of two types are two. -/
theorem blk_ne {w : World} {a b : Nat} {t u : TypeId} {x y : Array Value} (h : Blk w a t x) (k : Blk w b u y) (hn : t ≠ u) : a ≠ b := by
  rintro rfl
  unfold Blk at h k
  rw [h] at k
  injection k with k
  injection k with _ k2
  exact hn k2
theorem own_ne {w : World} {base e size n q b : Nat} {v : Value} {xs : List Value} {t : TypeId} {cs : Array Value} (h : w.ownsRow base e size v n xs) (hq : v.ownBlock = some q) (hb : Blk w b t cs) (ht : t ≠ e) : b ≠ q := by
  rcases h.2 with ⟨rfl, _⟩ | ⟨g, cap, cur, rfl, _, hh, _⟩
  · cases hq
  · injection hq with hq
    subst hq
    exact blk_ne hb hh ht
theorem ElC.keep {w w' : World} {C : Nat → Prop} {e : IE} {p : ByteArray × ByteArray} (h : ElC w C e p) (hk : ∀ (b : Nat) (t : TypeId) (cs : Array Value), t ≠ 55 → t ≠ 41 → Blk w b t cs → Blk w' b t cs) : ElC w' C e p := by
  obtain ⟨g, cg, ib, sb, he, c1, c2, b1, b2⟩ := h
  exact ⟨g, cg, ib, sb, he, c1, c2, hk _ _ _ (by decide) (by decide) b1, hk _ _ _ (by decide) (by decide) b2⟩
theorem ElFd.keep {w w' : World} {e : IE} (h : ElFd w e) (hk : ∀ (b : Nat) (t : TypeId) (cs : Array Value), t ≠ 55 → t ≠ 41 → Blk w b t cs → Blk w' b t cs) : ElFd w' e := by
  obtain ⟨g, he, ca, cc, rest, hb⟩ := h
  exact ⟨g, he, ca, cc, rest, hk _ _ _ (by decide) (by decide) hb⟩
/-- A step that leaves alone all that is not of X, X apart from the list. -/
theorem Acc.fr {w w' : World} {I : Nat} {C X : Nat → Prop} {v : Value} {es : List IE} {ps : List (ByteArray × ByteArray)} (h : Acc w I C v es ps) (f : Fr w w' X) (hI : ¬ X I) (hq : ∀ q, v.ownBlock = some q → ¬ X q) (hC : ∀ b, C b → ¬ X b) (hF : ∀ b, FB es b → ¬ X b) : Acc w' I C v es ps := by
  refine ⟨f.blk h.bI hI, ⟨h.own.1, ?_⟩, h.len, fun i e p h1 h2 => ?_, fun e he => ?_, h.nd⟩
  · rcases h.own.2 with h5 | ⟨g, cap, cur, hv, hb, hg, rest⟩
    · exact .inl h5
    · exact .inr ⟨g, cap, cur, hv, hb, (f.block g (Array.getElem?_eq_some_iff.1 hg).1 (hq g (by rw [hv]; rfl))).trans hg, rest⟩
  · obtain ⟨g, cg, ib, sb, he, c1, c2, b1, b2⟩ := h.el i e p h1 h2
    exact ⟨g, cg, ib, sb, he, c1, c2, f.blk b1 (hC _ c1), f.blk b2 (hC _ c2)⟩
  · obtain ⟨g, hg, hb⟩ := h.fd e he
    exact ⟨g, hg, hb.fr f (hF g ⟨e, he, hg⟩)⟩
theorem cellsI_snoc (es : List IE) (e : IE) : cellsI (es ++ [e]) = cellsI es ++ e.cells := by simp [cellsI]
/-- One element is appended, the slice stored back. -/
theorem Acc.push {w w' : World} {I g2 cap : Nat} {C : Nat → Prop} {v : Value} {es : List IE} {ps : List (ByteArray × ByteArray)} {e : IE} {p : ByteArray × ByteArray} (h : Acc w I C v es ps) (hown : w'.ownsRow 0 55 14 (.slice (some ⟨g2, 0, none⟩) (es.length + 1) cap) (es.length + 1) (cellsI es ++ e.cells))
    (hgrow : w.grownBy w' v.ownBlock) (hat : v.ownBlock = some g2 ∨ g2 = w.heap.size) (he : ElC w C e p) (hf : ElFd w e) (hn : e.aa ∉ es.map IE.aa) :
    Acc (w'.setCell ⟨I, 0, none⟩ (.slice (some ⟨g2, 0, none⟩) (es.length + 1) cap)) I C (.slice (some ⟨g2, 0, none⟩) (es.length + 1) cap) (es ++ [e]) (ps ++ [p]) ∧
    Fr w (w'.setCell ⟨I, 0, none⟩ (.slice (some ⟨g2, 0, none⟩) (es.length + 1) cap)) (fun b => b = I ∨ v.ownBlock = some b) := by
  have hIl := h.bI.lt
  have hgI : g2 ≠ I := by
    rcases hat with h1 | h1
    · intro hh; exact own_ne h.own h1 h.bI (by decide) hh.symm
    · omega
  have hk : ∀ (b : Nat) (t : TypeId) (cs : Array Value), t ≠ 55 → t ≠ 41 → Blk w b t cs → Blk (w'.setCell ⟨I, 0, none⟩ (.slice (some ⟨g2, 0, none⟩) (es.length + 1) cap)) b t cs := by
    intro b t cs h1 h2 hb
    exact (hb.grown hgrow (fun hh => own_ne h.own hh.symm hb h1 rfl)).far (p := ⟨I, 0, none⟩) (blk_ne hb h.bI h2) _
  refine ⟨⟨?_, ?_, by simp [h.len], fun i e1 p1 h1 h2 => ?_, fun e1 h1 => ?_, ?_⟩, ?_⟩
  · have b1 : Blk w' I 41 #[v] := h.bI.grown hgrow (fun hh => own_ne h.own hh.symm h.bI (by decide) rfl)
    have := b1.set 0 (.slice (some ⟨g2, 0, none⟩) (es.length + 1) cap)
    simpa using this
  · rw [cellsI_snoc, List.length_append]
    obtain ⟨hl, hh⟩ := hown
    refine ⟨hl, ?_⟩
    rcases hh with h1 | ⟨g', cap', cur, hv, hb, hh, r⟩
    · exact .inl h1
    · have hg' : g' = g2 := by
        injection hv with hv
        injection hv with hv
        injection hv with hv
        exact hv.symm
      refine .inr ⟨g', cap', cur, hv, hb, ?_, r⟩
      rw [Below.heap_setCell _ _ _ _ (by rw [hg']; exact hgI)]
      exact hh
  · rcases Nat.lt_or_ge i es.length with hl | hl
    · rw [List.getElem?_append_left hl] at h1
      rw [List.getElem?_append_left (by rw [← h.len]; exact hl)] at h2
      exact (h.el i e1 p1 h1 h2).keep hk
    · rw [List.getElem?_append_right hl] at h1
      rw [List.getElem?_append_right (by rw [← h.len]; exact hl), ← h.len] at h2
      have hi := (List.getElem?_eq_some_iff.1 h1).1
      simp at hi
      rw [show i - es.length = 0 by omega] at h1 h2
      simp at h1 h2
      subst h1 h2
      exact he.keep hk
  · rcases List.mem_append.1 h1 with h2 | h2
    · exact (h.fd e1 h2).keep hk
    · simp at h2
      subst h2
      exact hf.keep hk
  · rw [List.map_append, List.nodup_append]
    refine ⟨h.nd, by simp, ?_⟩
    intro a ha b hb hab
    simp at hb
    subst hb hab
    exact hn ha
  · refine ⟨hgrow.os, hgrow.tape, hgrow.output, by simpa using hgrow.size, fun b hb hx => ?_⟩
    rw [Below.heap_setCell _ _ _ _ (fun hh => hx (.inl hh))]
    exact hgrow.block b hb (fun hh => hx (.inr hh.symm))
/-- The open fodder of what follows. -/
def nextF (o : Option Nat) : List NE → Option Nat
  | [] => o
  | n :: _ => n.fod
theorem open_next {w : World} {C : Nat → Prop} {tb : Nat} {ns : List NE} {body : Value} {o : Option Nat} (hc : ChainAt w C tb ns body) (ht : TailAt w C tb o) :
    ∃ x off F, (∀ W, Calls Tryf.prog 30 #[body] W fun e w' => e = .returned (.pointer (some ⟨x, off, none⟩)) ∧ W = w') ∧ w.cell? ⟨x, off, none⟩ = some F ∧ x < w.heap.size ∧ FdV w C F (nextF o ns) := by
  cases ns with
  | nil =>
    obtain rfl : body = nulV tb := hc
    obtain ⟨fv, hb, hf⟩ := ht
    exact ⟨tb, 0, fv, fun W => open30n W tb, (hb.cell 0).trans (by simp [nb]), hb.lt, hf⟩
  | cons n ns =>
    obtain ⟨lb, body2, rfl, ⟨gb, ib, sb, fv, h1, h2, h3, h4, b1, b2, b3, b4, b5⟩, _⟩ := hc
    exact ⟨lb, 2, fv, fun W => open30l W lb, (b1.cell 2).trans (by simp [locC, nb]), b1.lt, b5⟩
end Go.Proofs.YtljfgplccnaboaaFmt
