/- SortImports, and topLevelImport with a fresh list. -/
import Derived.Test.YtljfgplccnaboaaFmtTpf
import Derived.Test.YtljfgplccnaboaaFmtChb
namespace Go.Proofs.YtljfgplccnaboaaFmt
open Go.RowKit
set_option linter.unusedVariables false

set_option maxRecDepth 100000 in
theorem new12 (w : World) : Calls Tryf.prog 12 #[] w fun e w' => e = .returned (.pointer (some ⟨w.heap.size + 1, 0, none⟩)) ∧ (w.alloc (.cells #[] 55)).alloc (.cells #[.slice (some ⟨w.heap.size, 0, none⟩) 0 0] 41) = w' := by
  go_enter Tryf.func12, Tryf.ntmps12
  go_wp2
  go_ret
  exact ⟨rfl, rfl⟩
/-- Is a chain that starts at a local. -/
structure ChH (w : World) (C : Nat → Prop) (tb lb : Nat) (n0 : NE) (body : Value) (ns : List NE) (o : Option Nat) : Prop where
  nd : NodeAt w C n0 lb body
  ch : ChainAt w C tb ns body
  tl : TailAt w C tb o
  o0 : o = none ∨ o = some 0
  fk : ∀ n ∈ ns, FK n.fod
  cl : ∀ b, C b → b < w.heap.size ∧ b ≠ tb
  len : 1 + ns.length ≤ 60000
  vs : ∀ p ∈ pvN n0 :: ns.map pvN, p.2.size ≤ maxLen
theorem ChH.top {w : World} {C : Nat → Prop} {tb lb : Nat} {n0 : NE} {body : Value} {ns : List NE} {o : Option Nat} (h : ChH w C tb lb n0 body ns o) {gof : Option Nat} {gv : Value} (hg : FdV w C gv gof) :
    TopH ((w.alloc (.cells #[] 55)).alloc (.cells #[.slice (some ⟨w.heap.size, 0, none⟩) 0 0] 41)) C C (w.heap.size + 1) tb lb (.slice (some ⟨w.heap.size, 0, none⟩) 0 0) [] [] n0 body ns o gof gv := by
  have f := ((Fr.refl w (fun _ => False)).alloc (.cells #[] 55)).alloc (.cells #[.slice (some ⟨w.heap.size, 0, none⟩) 0 0] 41)
  have hbI := Blk.new (w.alloc (.cells #[] 55)) 41 #[.slice (some ⟨w.heap.size, 0, none⟩) 0 0]
  rw [size1] at hbI
  have hcl : ∀ b, C b → b < ((w.alloc (.cells #[] 55)).alloc (.cells #[.slice (some ⟨w.heap.size, 0, none⟩) 0 0] 41)).heap.size ∧ ¬ XT (w.heap.size + 1) tb (.slice (some ⟨w.heap.size, 0, none⟩) 0 0) [] b := fun b hb => ⟨Nat.lt_of_lt_of_le (h.cl b hb).1 f.size, fun hx => by
    have := (h.cl b hb).1
    rcases hx.nil with h1 | h1 | h1
    · omega
    · exact (h.cl b hb).2 h1
    · omega⟩
  exact ⟨h.nd.fr f (fun _ _ h => h), h.ch.fr f (fun _ _ h => h), h.tl.fr f (fun h => h) (fun _ _ h => h), h.o0, h.fk, Acc.nil hbI (own_nil ((Blk.new w 55 #[]).alloc _)), hcl, hg.fr f (fun _ _ h => h), hcl, by have := h.len; simp; omega, h.vs⟩
/-- What a run leaves: B is where the old blocks end. -/
def RunD (w : World) (I tb : Nat) (n0 : NE) (ns : List NE) (gof : Option Nat) (e : Ending) (w' : World) : Prop :=
  ∃ va out f es' R c rest, e = .returned va ∧ TLI [] (pvN n0) ns gof out f ∧ ChainAt w' (Lt tb w') tb out va ∧ TailAt w' (Lt tb w') tb (some 0) ∧ Fr w w' (fun b => b = tb ∨ b = I ∨ b + 1 = I) ∧ Blk w' I 41 #[.slice (some ⟨R, 0, none⟩) f.length c] ∧ Blk w' R 55 (cellsI es' ++ rest).toArray ∧ es'.map (fun e => (e.key, e.var)) = f
set_option maxRecDepth 100000 in
theorem top13 (w : World) (C : Nat → Prop) (tb lb : Nat) (n0 : NE) (body : Value) (ns : List NE) (o : Option Nat) (h : ChH w C tb lb n0 body ns o) :
    Calls Tryf.prog 13 #[.pointer (some ⟨lb, 0, none⟩), .pointer (some ⟨w.heap.size + 1, 0, none⟩), .slice none 0 0] ((w.alloc (.cells #[] 55)).alloc (.cells #[.slice (some ⟨w.heap.size, 0, none⟩) 0 0] 41)) (RunD ((w.alloc (.cells #[] 55)).alloc (.cells #[.slice (some ⟨w.heap.size, 0, none⟩) 0 0] 41)) (w.heap.size + 1) tb n0 ns none) := by
  unfold RunD
  have K := Lib.hid (top25 tb ns _ C C (w.heap.size + 1) lb _ [] [] n0 body o none _ (h.top (gof := none) (gv := .slice none 0 0) rfl))
  clear h
  go_enter Tryf.func13, Tryf.ntmps13
  go_wp2_with fail
  refine K.out.mono ?_
  rintro e w7 ⟨va, out, f, es', R', c', rest', rfl, hti, hc, htl, hfr, hbI, hbR, hm⟩
  have HTI := Lib.hid hti
  have HC := Lib.hid hc
  have HTL := Lib.hid htl
  have HFR := Lib.hid hfr
  have HBI := Lib.hid hbI
  have HBR := Lib.hid hbR
  have HM := Lib.hid hm
  clear hti hc htl hfr hbI hbR hm K
  go_wp2_with fail
  go_ret
  refine ⟨va, out, f, es', R', c', rest', rfl, HTI.out, HC.out, HTL.out, HFR.out.sub ?_, HBI.out, HBR.out, HM.out⟩
  intro b hx
  rcases hx.nil with h1 | h1 | h1
  · exact .inr (.inl h1)
  · exact .inl h1
  · exact .inr (.inr (by omega))

def SortD (w : World) (fb tb : Nat) (n0 : NE) (ns : List NE) (e : Ending) (w' : World) : Prop :=
  ∃ va out f, e = .returned (.tuple #[]) ∧ TLI [] (pvN n0) ns n0.fod out f ∧ ChainAt w' (fun b => Lt tb w' b ∧ b ≠ fb) tb out va ∧ Fr w w' (fun b => b = tb ∨ b = fb) ∧ Blk w' fb 35 #[va]
set_option maxRecDepth 100000 in
theorem sort22n (w : World) (fb tb : Nat) (hf : Blk w fb 35 #[nulV tb]) : Calls Tryf.prog 22 #[.pointer (some ⟨fb, 0, none⟩)] w fun e w' => e = .returned (.tuple #[]) ∧ Below w.heap.size w w' := by
  have f0 := hf.cell 0
  simp [nulV] at f0
  have fl := hf.lt
  have K := Lib.hid (good29n ((w.alloc (.cells #[] 55)).alloc (.cells #[.slice (some ⟨w.heap.size, 0, none⟩) 0 0] 41)) tb)
  unfold nulV at K
  clear hf
  go_enter Tryf.func22, Tryf.ntmps22
  go_wp2_with fail
  refine K.out.mono ?_
  rintro e w1 ⟨rfl, rfl⟩
  go_wp2_with fail
  go_end0
  exact ⟨rfl, ((Below.refl _ _).alloc (Nat.le_refl _) _).alloc (by simp) _⟩
theorem TopH.fr0 {w w' : World} {C G : Nat → Prop} {I tb lb : Nat} {v : Value} {es : List IE} {ps : List (ByteArray × ByteArray)} {n0 : NE} {body : Value} {ns : List NE} {o gof : Option Nat} {gv : Value} (h : TopH w C G I tb lb v es ps n0 body ns o gof gv) (f : Fr w w' (fun _ => False)) : TopH w' C G I tb lb v es ps n0 body ns o gof gv :=
  ⟨h.nd.fr f (fun _ _ h => h), h.ch.fr f (fun _ _ h => h), h.tl.fr f (fun h => h) (fun _ _ h => h), h.o0, h.fk, h.acc.fr f (fun h => h) (fun _ _ h => h) (fun _ _ h => h) (fun _ _ h => h), fun b hb => ⟨Nat.lt_of_lt_of_le (h.cl b hb).1 f.size, (h.cl b hb).2⟩, h.gf.fr f (fun _ _ h => h), fun b hb => ⟨Nat.lt_of_lt_of_le (h.gl b hb).1 f.size, (h.gl b hb).2⟩, h.len, h.vs⟩
theorem FdV.ne {w : World} {S : Nat → Prop} {v : Value} {o : Option Nat} {fb : Nat} {cs : Array Value} (h : FdV w S v o) (hf : Blk w fb 35 cs) : FdV w (fun b => S b ∧ b ≠ fb) v o := by
  cases o with
  | none => exact h
  | some k =>
    obtain ⟨g, c, rfl, hS, ca, cc, rest, hb⟩ := h
    exact ⟨g, c, rfl, ⟨hS, blk_ne hb hf (by decide)⟩, ca, cc, rest, hb⟩
theorem ChainAt.ne {w : World} {S : Nat → Prop} {tb : Nat} {ns : List NE} {v : Value} {fb : Nat} {cs : Array Value} (h : ChainAt w S tb ns v) (hf : Blk w fb 35 cs) : ChainAt w (fun b => S b ∧ b ≠ fb) tb ns v := by
  induction ns generalizing v with
  | nil => exact h
  | cons n ns ih =>
    obtain ⟨lb, body, rfl, ⟨gb, ib, sb, fv, h1, h2, h3, h4, b1, b2, b3, b4, b5⟩, hc⟩ := h
    exact ⟨lb, body, rfl, ⟨gb, ib, sb, fv, ⟨h1, blk_ne b1 hf (by decide)⟩, ⟨h2, blk_ne b2 hf (by decide)⟩, ⟨h3, blk_ne b3 hf (by decide)⟩, ⟨h4, blk_ne b4 hf (by decide)⟩, b1, b2, b3, b4, b5.ne hf⟩, ih hc⟩
set_option maxRecDepth 100000 in
set_option maxHeartbeats 1600000 in
theorem sort22 (w : World) (C : Nat → Prop) (fb tb lb : Nat) (n0 : NE) (body : Value) (ns : List NE) (o : Option Nat) (h : ChH w C tb lb n0 body ns o) (hf : Blk w fb 35 #[locV lb]) : Calls Tryf.prog 22 #[.pointer (some ⟨fb, 0, none⟩)] w (SortD w fb tb n0 ns) := by
  unfold SortD
  have H := Lib.hid h
  have HF := Lib.hid hf
  obtain ⟨gb, ib, sb, fv, s1, s2, s3, s4, h1, h2, h3, h4, h5⟩ := h.nd
  have f0 := hf.cell 0
  simp [locV] at f0
  have fl := hf.lt
  have fW := ((Fr.refl w (fun _ => False)).alloc (.cells #[] 55)).alloc (.cells #[.slice (some ⟨w.heap.size, 0, none⟩) 0 0] 41)
  have H1 := Lib.hid h1
  have H5 := Lib.hid h5
  have FW := Lib.hid fW
  have K := Lib.hid (good29l ((w.alloc (.cells #[] 55)).alloc (.cells #[.slice (some ⟨w.heap.size, 0, none⟩) 0 0] 41)) lb gb ib n0.var body fv (fW.blk h1 (fun h => h)) (fW.blk h2 (fun h => h)))
  unfold locV at K
  clear hf h s1 s2 s3 s4 h1 h2 h3 h4 h5 fW
  go_enter Tryf.func22, Tryf.ntmps22
  go_wp2_with fail
  refine K.out.mono ?_
  rintro e w1 ⟨rfl, hb1⟩
  have F1 := FW.out.trans (Fr.of_below hb1 (fun _ => False))
  have K30 := Lib.hid (open30l w1 lb)
  have hL := F1.blk H1.out (fun h => h)
  obtain ⟨l0, _, _, l3, _⟩ := loc_cells _ _ _ hL
  have K25 := Lib.hid (top25 tb ns w1 C C (w.heap.size + 1) lb _ [] [] n0 body o n0.fod fv ((H.out.top H5.out).fr0 (Fr.of_below hb1 (fun _ => False))))
  have HF1 := Lib.hid F1
  have HBF := Lib.hid (F1.blk HF.out (fun h => h))
  have S1 := Lib.hid (show w.heap.size + 2 ≤ w1.heap.size by have := hb1.size; simp at this; omega)
  unfold locV at K30
  obtain ⟨q0, q1, q2, rfl⟩ := H5.out.is_slice
  clear hb1 F1 hL K f0 fl
  go_wp2_with fail
  refine K30.out.mono ?_
  rintro e w2 ⟨rfl, rfl⟩
  go_wp2_with fail
  refine K25.out.mono ?_
  rintro e w7 ⟨va, out, f, es', R', c', rest', rfl, hti, hc, htl, hfr, _, _, _⟩
  obtain ⟨T, vb, rfl⟩ := chain_iface hc
  have hfb : fb < w.heap.size := HF.out.lt
  have hft : fb ≠ tb := by obtain ⟨_, hh, _⟩ := H.out.tl; exact blk_ne HF.out hh (by decide)
  have hb7 : Blk w7 fb 35 #[locV lb] := hfr.blk HBF.out (fun hx => by
    rcases hx.nil with h1 | h1 | h1
    · omega
    · exact hft h1
    · omega)
  have HTI := Lib.hid hti
  have HC := Lib.hid (hc.ne hb7)
  have F7 := Lib.hid ((HF1.out.sub (fun _ h => h.elim)).step hfr (X := fun b => b = tb ∨ b = fb) (fun b hb hx => by
    rcases hx.nil with h1 | h1 | h1
    · omega
    · exact .inl h1
    · omega))
  have g0 := hb7.cell 0
  simp at g0
  have gf := hb7.free 0
  have gl := hb7.lt
  have HB7 := Lib.hid hb7
  clear hti hc htl hfr K25 K30 hb7 l3 l0
  go_wp2_with fail
  go_end0
  refine ⟨_, out, f, rfl, HTI.out, ?_, F7.out.setCell ⟨fb, 0, none⟩ _ (.inl (.inr rfl)), by simpa using HB7.out.set 0 (.iface T (.pointer (some ⟨vb, 0, none⟩)))⟩
  exact (HC.out.fr ((Fr.refl w7 (fun b => b = fb)).setCell ⟨fb, 0, none⟩ _ (.inl rfl)) (fun b hb => hb.2)).sub (fun b hb => ⟨⟨hb.1.1, by simpa using hb.1.2⟩, hb.2⟩)
end Go.Proofs.YtljfgplccnaboaaFmt
