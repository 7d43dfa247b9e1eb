/- topLevelImport: what it is asked and what it leaves. -/
import Derived.Test.YtljfgplccnaboaaFmtTop
namespace Go.Proofs.YtljfgplccnaboaaFmt
open Go.RowKit
set_option linter.unusedVariables false

theorem FdV.is_slice {w : World} {S : Nat → Prop} {v : Value} {o : Option Nat} (h : FdV w S v o) : ∃ a b c, v = .slice a b c := by
  cases o with
  | none => exact ⟨_, _, _, h⟩
  | some k => obtain ⟨g, c, rfl, _⟩ := h; exact ⟨_, _, _, rfl⟩
theorem own_slice {w : World} {base e size n : Nat} {v : Value} {xs : List Value} (h : w.ownsRow base e size v n xs) : ∃ a b c, v = .slice a b c := by
  rcases h.2 with ⟨rfl, _⟩ | ⟨g, cap, cur, rfl, _⟩
  · exact ⟨_, _, _, rfl⟩
  · exact ⟨_, _, _, rfl⟩
theorem news_row {w : World} {R : Nat} {e : IE} {rest : List Value} (h : Blk w R 55 (cellsI [e] ++ rest).toArray) : ∀ (j : Nat) (u : Value), e.cells[j]? = some u → w.cell? ((⟨R, 0, none⟩ : Addr).add j) = some u := by
  intro j u hu
  refine World.news_of_block (cs := (cellsI [e] ++ rest).toArray) (show w.heap[R]? = _ from h) j u ?_
  have hj : j < e.cells.length := (List.getElem?_eq_some_iff.1 hu).1
  have hc : cellsI [e] = e.cells := by simp [cellsI]
  show (cellsI [e] ++ rest)[j]? = some u
  rw [hc, List.getElem?_append_left hj]
  exact hu
/-- What topLevelImport is asked. -/
structure TopH (w : World) (C G : Nat → Prop) (I tb lb : Nat) (v : Value) (es : List IE) (ps : List (ByteArray × ByteArray)) (n0 : NE) (body : Value) (ns : List NE) (o gof : Option Nat) (gv : Value) : Prop where
  nd : NodeAt w C n0 lb body
  ch : ChainAt w C tb ns body
  tl : TailAt w C tb o
  o0 : o = none ∨ o = some 0
  fk : ∀ n ∈ ns, FK n.fod
  acc : Acc w I C v es ps
  cl : ∀ b, C b → b < w.heap.size ∧ ¬ XT I tb v es b
  gf : FdV w G gv gof
  gl : ∀ b, G b → b < w.heap.size ∧ ¬ XT I tb v es b
  len : es.length + 1 + ns.length ≤ 60000
  vs : ∀ p ∈ ps ++ pvN n0 :: ns.map pvN, p.2.size ≤ maxLen
/-- What it leaves. -/
def TopD (w : World) (I tb : Nat) (v : Value) (es : List IE) (ps : List (ByteArray × ByteArray)) (cur : ByteArray × ByteArray) (ns : List NE) (gof : Option Nat) (e : Ending) (w' : World) : Prop :=
  ∃ va out f es' R c rest, e = .returned va ∧ TLI ps cur ns gof out f ∧ ChainAt w' (Lt tb w') tb out va ∧ TailAt w' (Lt tb w') tb (some 0) ∧ Fr w w' (XT I tb v es) ∧ Blk w' I 41 #[.slice (some ⟨R, 0, none⟩) f.length c] ∧ Blk w' R 55 (cellsI es' ++ rest).toArray ∧ es'.map (fun e => (e.key, e.var)) = f
theorem FB.lt {w : World} {I : Nat} {C : Nat → Prop} {v : Value} {es : List IE} {ps : List (ByteArray × ByteArray)} (h : Acc w I C v es ps) {b : Nat} (hb : FB es b) : b < w.heap.size ∧ ∃ cs, Blk w b 81 cs := by
  obtain ⟨e, he, ha⟩ := hb
  obtain ⟨g, hg, ca, cc, rest, hbk⟩ := h.fd e he
  rw [hg] at ha
  injection ha with ha
  injection ha with ha
  subst ha
  exact ⟨hbk.lt, _, hbk⟩
theorem Acc.fresh {w : World} {I : Nat} {C : Nat → Prop} {v : Value} {es : List IE} {ps : List (ByteArray × ByteArray)} (h : Acc w I C v es ps) {e : IE} {g : Nat} (he : e.aa = some ⟨g, 0, none⟩) (hg : w.heap.size ≤ g) : e.aa ∉ es.map IE.aa := by
  intro hm
  obtain ⟨e1, h1, h2⟩ := List.mem_map.1 hm
  have := (FB.lt h (b := g) ⟨e1, h1, h2.trans he⟩).1
  omega
theorem nextF_fk {ns : List NE} {o : Option Nat} (h : ∀ n ∈ ns, FK n.fod) (ho : o = none ∨ o = some 0) : FK (nextF o ns) := by
  cases ns with
  | nil => rcases ho with rfl | rfl <;> simp [nextF, FK]
  | cons n ns => exact h n (by simp)
theorem own_lt {w : World} {base e size n q : Nat} {v : Value} {xs : List Value} (h : w.ownsRow base e size v n xs) (hq : v.ownBlock = some q) : q < w.heap.size := by
  rcases h.2 with ⟨rfl, _⟩ | ⟨g, cap, cur, rfl, _, hh, _⟩
  · cases hq
  · injection hq with hq
    subst hq
    exact (Array.getElem?_eq_some_iff.1 hh).1
theorem XT.grow {I tb g2 n c b B g cg ib : Nat} {p : ByteArray × ByteArray} {v : Value} {es : List IE} (h : XT I tb (.slice (some ⟨g2, 0, none⟩) n c) (es ++ [mkI' g cg ib p]) b) (hg2 : (∃ q, v.ownBlock = some q ∧ q = g2) ∨ B ≤ g2) (hg : B ≤ g) (hb : b < B) : XT I tb v es b := by
  rcases h with h | h | h | ⟨e, he, ha⟩
  · exact .inl h
  · exact .inr (.inl h)
  · injection h with h
    rcases hg2 with ⟨q, hq, h2⟩ | h2
    · exact .inr (.inr (.inl (by rw [hq, h2]; exact congrArg some h)))
    · have h3 : g2 = b := h
      omega
  · rcases List.mem_append.1 he with h1 | h1
    · exact .inr (.inr (.inr ⟨e, h1, ha⟩))
    · simp at h1
      subst h1
      injection ha with ha
      injection ha with ha
      omega
theorem TailAt.fr {w w' : World} {S X : Nat → Prop} {tb : Nat} {o : Option Nat} (h : TailAt w S tb o) (f : Fr w w' X) (ht : ¬ X tb) (hS : ∀ b, S b → ¬ X b) : TailAt w' S tb o := by
  obtain ⟨fv, h1, h2⟩ := h
  exact ⟨fv, f.blk h1 ht, h2.fr f hS⟩
theorem TopH.tb {w : World} {C G : Nat → Prop} {I tb lb : Nat} {v : Value} {es : List IE} {ps : List (ByteArray × ByteArray)} {n0 : NE} {body : Value} {ns : List NE} {o gof : Option Nat} {gv : Value} (h : TopH w C G I tb lb v es ps n0 body ns o gof gv) : tb < w.heap.size ∧ ¬ (tb = I ∨ v.ownBlock = some tb) := by
  obtain ⟨fv, h1, _⟩ := h.tl
  exact ⟨h1.lt, fun hx => hx.elim (blk_ne h1 h.acc.bI (by decide)) (fun e => own_ne h.acc.own e h1 (by decide) rfl)⟩
end Go.Proofs.YtljfgplccnaboaaFmt
