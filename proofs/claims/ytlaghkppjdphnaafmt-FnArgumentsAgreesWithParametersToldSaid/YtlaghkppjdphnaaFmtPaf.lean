/- FixNewlines.Parens. -/
import Derived.Test.YtlaghkppjdphnaaFmtPrn
namespace Go.Proofs.YtlaghkppjdphnaaFmt
open Go.RowKit
set_option linter.unusedVariables false

/-- The pass c, the parens p over the null literal ln, their two fodders. -/
structure ParS (w : World) (c p ln : Nat) (v1 v2 : Value) (es1 es2 : List LE) : Prop where
  bc : Blk w c 52 #[]
  bp : Blk w p 47 (parC ln v2)
  bl : Blk w ln 42 (nullC v1)
  f1 : FodN w (fun b => b = p ∨ b = ln) v1 es1
  f2 : FodN w (fun b => b = p ∨ b = ln) v2 es2
  pl : p ≠ ln
  cl : c ≠ ln
  cp : c ≠ p
theorem ParS.below {w w' : World} {c p ln : Nat} {v1 v2 : Value} {es1 es2 : List LE} (h : ParS w c p ln v1 v2 es1 es2) (hb : Below w.heap.size w w') : ParS w' c p ln v1 v2 es1 es2 :=
  ⟨h.bc.under hb, h.bp.under hb, h.bl.under hb, h.f1.below hb, h.f2.below hb, h.pl, h.cl, h.cp⟩
theorem ParS.ens1 {w w' : World} {c p ln : Nat} {v1 v2 v' : Value} {es1 es2 es' : List LE} (h : ParS w c p ln v1 v2 es1 es2) (hb : Blk w' ln 42 ((nullC v1).setIfInBounds 0 v')) (hf : FodN w' (fun b => b = p ∨ b = ln) v' es') (fr : Fr w w' (fun b => b = ln)) : ParS w' c p ln v' v2 es' es2 :=
  ⟨fr.blk h.bc h.cl, fr.blk h.bp h.pl, by simpa [nullC] using hb, hf, h.f2.fr fr fun b hb => .inr hb, h.pl, h.cl, h.cp⟩
theorem ParS.ens2 {w w' : World} {c p ln : Nat} {v1 v2 v' : Value} {es1 es2 es' : List LE} (h : ParS w c p ln v1 v2 es1 es2) (hb : Blk w' p 47 ((parC ln v2).setIfInBounds 1 v')) (hf : FodN w' (fun b => b = p ∨ b = ln) v' es') (fr : Fr w w' (fun b => b = p)) : ParS w' c p ln v1 v' es1 es' :=
  ⟨fr.blk h.bc h.cp, by simpa [parC] using hb, fr.blk h.bl (fun e => h.pl e.symm), h.f1.fr fr fun b hb => .inl hb, hf, h.pl, h.cl, h.cp⟩
def Pard (w : World) (c p ln : Nat) (es1 es2 : List LE) (e : Ending) (w' : World) : Prop :=
  e = .returned (.tuple #[]) ∧ (∃ v1' v2', ParS w' c p ln v1' v2' es1 es2) ∧ Fr w w' (fun b => b = p ∨ b = ln)
def fix (x : Bool) (es : List LE) : List LE := if x = true then ens es else es
theorem FodN.cnt {w : World} {X : Nat → Prop} {v : Value} {es : List LE} (h : FodN w X v es) (hok : ∀ e ∈ es, OkL e) : Calls Tryf.prog 34 #[v] w (CntB w (hasL es) 1374389534720) := by
  obtain ⟨f, h1, rfl, _⟩ := h
  exact cntF w v f (h1.sub fun b h => h.1) hok

set_option maxRecDepth 100000 in
set_option maxHeartbeats 6400000 in
theorem par13 (w : World) (c p ln : Nat) (v1 v2 : Value) (es1 es2 : List LE) (h : ParS w c p ln v1 v2 es1 es2) (h1 : ∀ e ∈ es1, OkL e) (h2 : ∀ e ∈ es2, OkL e) (x : Value) :
    Calls Tryf.prog 13 #[.pointer (some ⟨c, 0, none⟩), .iface 48 (.pointer (some ⟨c, 0, none⟩)), .pointer (some ⟨p, 0, none⟩), x] w (Pard w c p ln (fix (hasL es1 || hasL es2) es1) (fix (hasL es1 || hasL es2) es2)) := by
  unfold Pard
  have KB : ∀ (w' : World) (v1 v2 : Value) (es1 es2 : List LE), ParS w' c p ln v1 v2 es1 es2 → Calls Tryf.prog 37 #[.pointer (some ⟨c, 0, none⟩), .iface 48 (.pointer (some ⟨c, 0, none⟩)), .pointer (some ⟨p, 0, none⟩), x] w' (Fine w') := by
    intro w' v1 v2 es1 es2 h
    obtain ⟨a1, c1, rfl, g1, _, g2⟩ := h.f1.open
    obtain ⟨a2, c2, rfl, g3, _, g4⟩ := h.f2.open
    exact base37 w' c p ln a1 a2 _ c1 _ c2 _ h.bc h.bp h.bl h.pl h.cl g2 g1 g4 g3 _ _
  have HKB := Lib.hid KB
  obtain ⟨a1, c1, rfl, _⟩ := h.f1.open
  obtain ⟨a2, c2, rfl, _⟩ := h.f2.open
  have K1 := Lib.hid (h.f1.cnt h1)
  have HH := Lib.hid h
  have HO1 := Lib.hid h1
  have HO2 := Lib.hid h2
  have p0 := h.bp.cell 0
  simp [parC] at p0
  have l0 := h.bl.cell 0
  simp [nullC] at l0
  have pl := h.bp.lt
  have ll := h.bl.lt
  have cl := h.bc.lt
  clear h h1 h2 KB
  have K2 : ∀ w' v, FodN w' (fun b => b = p ∨ b = ln) v es2 → Calls Tryf.prog 34 #[v] w' (CntB w' (hasL es2) 1374389534720) := fun w' v h => h.cnt HO2.out
  have HK2 := Lib.hid K2
  clear K2
  generalize hasL es1 = r1 at *
  generalize hasL es2 = r2 at *
  cases r1 <;> cases r2
  · skip
    go_enter Tryf.func13, Tryf.ntmps13
    go_wp2_with fail
    refine (openF35 w ln).mono ?_
    rintro e w1 ⟨rfl, rfl⟩
    go_wp2_with fail
    refine K1.out.mono ?_
    rintro e w1 ⟨m1, rfl, hb1, hm1, hp1⟩
    have g1 : ¬ 0 < m1 := by simpa using hp1.symm
    have HH1 := Lib.hid (HH.out.below hb1)
    have K2 := Lib.hid (HK2.out w1 _ HH1.out.f2)
    have B1 := Lib.hid hb1
    have p1 := HH1.out.bp.cell 1
    simp [parC] at p1
    have pl1 := HH1.out.bp.lt
    clear hb1 hp1 K1 p0 l0 pl ll cl
    go_wp2_with fail
    refine K2.out.mono ?_
    rintro e w2 ⟨m2, rfl, hb2, hm2, hp2⟩
    have g2 : ¬ 0 < m2 := by simpa using hp2.symm
    have HH2 := Lib.hid (HH1.out.below hb2)
    have B2 := Lib.hid (B1.out.trans (hb2.mono B1.out.size))
    have q0 := HH2.out.bp.cell 0
    simp [parC] at q0
    have ql := HH2.out.bp.lt
    have cl2 := HH2.out.bc.lt
    clear hb2 hp2 K2 p1 pl1
    have hpart := partAt0 (P := Tryf.prog) HH2.out.bc (.inr (by kernel_rfl))
    go_wp2_with fail
    refine (HKB.out w2 _ _ _ _ HH2.out).mono ?_
    rintro e w5 ⟨rfl, hb5⟩
    have HH5 := Lib.hid (HH2.out.below hb5)
    have B5 := Lib.hid (B2.out.trans (hb5.mono B2.out.size))
    clear hb5
    go_wp2_with fail
    go_end0
    exact ⟨rfl, ⟨_, _, HH5.out⟩, Fr.of_below B5.out _⟩
  · skip
    go_enter Tryf.func13, Tryf.ntmps13
    go_wp2_with fail
    refine (openF35 w ln).mono ?_
    rintro e w1 ⟨rfl, rfl⟩
    go_wp2_with fail
    refine K1.out.mono ?_
    rintro e w1 ⟨m1, rfl, hb1, hm1, hp1⟩
    have g1 : ¬ 0 < m1 := by simpa using hp1.symm
    have HH1 := Lib.hid (HH.out.below hb1)
    have K2 := Lib.hid (HK2.out w1 _ HH1.out.f2)
    have B1 := Lib.hid hb1
    have p1 := HH1.out.bp.cell 1
    simp [parC] at p1
    have pl1 := HH1.out.bp.lt
    clear hb1 hp1 K1 p0 l0 pl ll cl
    go_wp2_with fail
    refine K2.out.mono ?_
    rintro e w2 ⟨m2, rfl, hb2, hm2, hp2⟩
    have g2 : 0 < m2 := by simpa using hp2.symm
    have HH2 := Lib.hid (HH1.out.below hb2)
    have B2 := Lib.hid (B1.out.trans (hb2.mono B1.out.size))
    have q0 := HH2.out.bp.cell 0
    simp [parC] at q0
    have ql := HH2.out.bp.lt
    have cl2 := HH2.out.bc.lt
    clear hb2 hp2 K2 p1 pl1
    go_wp2_with fail
    refine (openF35 w2 ln).mono ?_
    rintro e w9 ⟨rfl, rfl⟩
    go_wp2_with fail
    refine (ens36 w2 _ ln 0 42 _ _ _ HH2.out.bl rfl HH2.out.f1 (by rintro b (h | h); rw [h]; exact HH2.out.bp.lt; rw [h]; exact HH2.out.bl.lt) (.inr rfl)).mono ?_
    rintro e w3 ⟨rfl, ⟨v1', hb3, hf3⟩, hfr3⟩
    have HH3 := Lib.hid (HH2.out.ens1 hb3 hf3 hfr3)
    have F3 := Lib.hid ((Fr.of_below B2.out (fun b => b = p ∨ b = ln)).step hfr3 fun b hb h => .inr h)
    have ql3 := HH3.out.bp.lt
    clear hb3 hf3 hfr3
    go_wp2_with fail
    refine (ens36 w3 _ p 1 47 _ _ _ HH3.out.bp rfl HH3.out.f2 (by rintro b (h | h); rw [h]; exact HH3.out.bp.lt; rw [h]; exact HH3.out.bl.lt) (.inl rfl)).mono ?_
    rintro e w4 ⟨rfl, ⟨v2', hb4, hf4⟩, hfr4⟩
    have HH4 := Lib.hid (HH3.out.ens2 hb4 hf4 hfr4)
    have F4 := Lib.hid (F3.out.step hfr4 fun b hb h => .inl h)
    have cl4 := HH4.out.bc.lt
    have hpart := partAt0 (P := Tryf.prog) HH4.out.bc (.inr (by kernel_rfl))
    clear hb4 hf4 hfr4
    go_wp2_with fail
    refine (HKB.out w4 _ _ _ _ HH4.out).mono ?_
    rintro e w5 ⟨rfl, hb5⟩
    have HH5 := Lib.hid (HH4.out.below hb5)
    have F5 := Lib.hid (F4.out.step (Fr.of_below hb5 (fun _ => False)) fun b hb h => h.elim)
    clear hb5
    go_wp2_with fail
    go_end0
    exact ⟨rfl, ⟨_, _, HH5.out⟩, F5.out⟩
  · skip
    go_enter Tryf.func13, Tryf.ntmps13
    go_wp2_with fail
    refine (openF35 w ln).mono ?_
    rintro e w1 ⟨rfl, rfl⟩
    go_wp2_with fail
    refine K1.out.mono ?_
    rintro e w1 ⟨m1, rfl, hb1, hm1, hp1⟩
    have g1 : 0 < m1 := by simpa using hp1.symm
    have HH1 := Lib.hid (HH.out.below hb1)
    have K2 := Lib.hid (HK2.out w1 _ HH1.out.f2)
    have B1 := Lib.hid hb1
    have p1 := HH1.out.bp.cell 1
    simp [parC] at p1
    have pl1 := HH1.out.bp.lt
    clear hb1 hp1 K1 p0 l0 pl ll cl
    go_wp2_with fail
    refine K2.out.mono ?_
    rintro e w2 ⟨m2, rfl, hb2, hm2, hp2⟩
    have g2 : ¬ 0 < m2 := by simpa using hp2.symm
    have HH2 := Lib.hid (HH1.out.below hb2)
    have B2 := Lib.hid (B1.out.trans (hb2.mono B1.out.size))
    have q0 := HH2.out.bp.cell 0
    simp [parC] at q0
    have ql := HH2.out.bp.lt
    have cl2 := HH2.out.bc.lt
    clear hb2 hp2 K2 p1 pl1
    go_wp2_with fail
    refine (openF35 w2 ln).mono ?_
    rintro e w9 ⟨rfl, rfl⟩
    go_wp2_with fail
    refine (ens36 w2 _ ln 0 42 _ _ _ HH2.out.bl rfl HH2.out.f1 (by rintro b (h | h); rw [h]; exact HH2.out.bp.lt; rw [h]; exact HH2.out.bl.lt) (.inr rfl)).mono ?_
    rintro e w3 ⟨rfl, ⟨v1', hb3, hf3⟩, hfr3⟩
    have HH3 := Lib.hid (HH2.out.ens1 hb3 hf3 hfr3)
    have F3 := Lib.hid ((Fr.of_below B2.out (fun b => b = p ∨ b = ln)).step hfr3 fun b hb h => .inr h)
    have ql3 := HH3.out.bp.lt
    clear hb3 hf3 hfr3
    go_wp2_with fail
    refine (ens36 w3 _ p 1 47 _ _ _ HH3.out.bp rfl HH3.out.f2 (by rintro b (h | h); rw [h]; exact HH3.out.bp.lt; rw [h]; exact HH3.out.bl.lt) (.inl rfl)).mono ?_
    rintro e w4 ⟨rfl, ⟨v2', hb4, hf4⟩, hfr4⟩
    have HH4 := Lib.hid (HH3.out.ens2 hb4 hf4 hfr4)
    have F4 := Lib.hid (F3.out.step hfr4 fun b hb h => .inl h)
    have cl4 := HH4.out.bc.lt
    have hpart := partAt0 (P := Tryf.prog) HH4.out.bc (.inr (by kernel_rfl))
    clear hb4 hf4 hfr4
    go_wp2_with fail
    refine (HKB.out w4 _ _ _ _ HH4.out).mono ?_
    rintro e w5 ⟨rfl, hb5⟩
    have HH5 := Lib.hid (HH4.out.below hb5)
    have F5 := Lib.hid (F4.out.step (Fr.of_below hb5 (fun _ => False)) fun b hb h => h.elim)
    clear hb5
    go_wp2_with fail
    go_end0
    exact ⟨rfl, ⟨_, _, HH5.out⟩, F5.out⟩
  · skip
    go_enter Tryf.func13, Tryf.ntmps13
    go_wp2_with fail
    refine (openF35 w ln).mono ?_
    rintro e w1 ⟨rfl, rfl⟩
    go_wp2_with fail
    refine K1.out.mono ?_
    rintro e w1 ⟨m1, rfl, hb1, hm1, hp1⟩
    have g1 : 0 < m1 := by simpa using hp1.symm
    have HH1 := Lib.hid (HH.out.below hb1)
    have K2 := Lib.hid (HK2.out w1 _ HH1.out.f2)
    have B1 := Lib.hid hb1
    have p1 := HH1.out.bp.cell 1
    simp [parC] at p1
    have pl1 := HH1.out.bp.lt
    clear hb1 hp1 K1 p0 l0 pl ll cl
    go_wp2_with fail
    refine K2.out.mono ?_
    rintro e w2 ⟨m2, rfl, hb2, hm2, hp2⟩
    have g2 : 0 < m2 := by simpa using hp2.symm
    have HH2 := Lib.hid (HH1.out.below hb2)
    have B2 := Lib.hid (B1.out.trans (hb2.mono B1.out.size))
    have q0 := HH2.out.bp.cell 0
    simp [parC] at q0
    have ql := HH2.out.bp.lt
    have cl2 := HH2.out.bc.lt
    clear hb2 hp2 K2 p1 pl1
    go_wp2_with fail
    refine (openF35 w2 ln).mono ?_
    rintro e w9 ⟨rfl, rfl⟩
    go_wp2_with fail
    refine (ens36 w2 _ ln 0 42 _ _ _ HH2.out.bl rfl HH2.out.f1 (by rintro b (h | h); rw [h]; exact HH2.out.bp.lt; rw [h]; exact HH2.out.bl.lt) (.inr rfl)).mono ?_
    rintro e w3 ⟨rfl, ⟨v1', hb3, hf3⟩, hfr3⟩
    have HH3 := Lib.hid (HH2.out.ens1 hb3 hf3 hfr3)
    have F3 := Lib.hid ((Fr.of_below B2.out (fun b => b = p ∨ b = ln)).step hfr3 fun b hb h => .inr h)
    have ql3 := HH3.out.bp.lt
    clear hb3 hf3 hfr3
    go_wp2_with fail
    refine (ens36 w3 _ p 1 47 _ _ _ HH3.out.bp rfl HH3.out.f2 (by rintro b (h | h); rw [h]; exact HH3.out.bp.lt; rw [h]; exact HH3.out.bl.lt) (.inl rfl)).mono ?_
    rintro e w4 ⟨rfl, ⟨v2', hb4, hf4⟩, hfr4⟩
    have HH4 := Lib.hid (HH3.out.ens2 hb4 hf4 hfr4)
    have F4 := Lib.hid (F3.out.step hfr4 fun b hb h => .inl h)
    have cl4 := HH4.out.bc.lt
    have hpart := partAt0 (P := Tryf.prog) HH4.out.bc (.inr (by kernel_rfl))
    clear hb4 hf4 hfr4
    go_wp2_with fail
    refine (HKB.out w4 _ _ _ _ HH4.out).mono ?_
    rintro e w5 ⟨rfl, hb5⟩
    have HH5 := Lib.hid (HH4.out.below hb5)
    have F5 := Lib.hid (F4.out.step (Fr.of_below hb5 (fun _ => False)) fun b hb h => h.elim)
    clear hb5
    go_wp2_with fail
    go_end0
    exact ⟨rfl, ⟨_, _, HH5.out⟩, F5.out⟩
end Go.Proofs.YtlaghkppjdphnaaFmt
