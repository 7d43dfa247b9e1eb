/- Parameters in memory; Base.Parameters. -/
import Derived.Test.YtlaghkppjdphnaaFmtPrn
namespace Go.Proofs.YtlaghkppjdphnaaFmt
open Go.RowKit
set_option linter.unusedVariables false

/-- The cells of one parameter. -/
def pcs (v : Value) : List Value := [v, .string ⟨#[]⟩, .slice none 0 0, .slice none 0 0, .nilIface, .pointer none, .string ⟨#[]⟩, .int .i64 0, .int .i64 0, .int .i64 0, .int .i64 0]
def cellsP (vs : List Value) : List Value := vs.flatMap pcs
theorem cellsP_len (vs : List Value) : (cellsP vs).length = vs.length * 11 := flat_len pcs 11 (fun _ => rfl) vs
theorem cellsP_at (vs : List Value) (i j : Nat) (v : Value) (h : vs[i]? = some v) (hj : j < 11) : (cellsP vs)[i * 11 + j]? = (pcs v)[j]? := flat_at pcs 11 (fun _ => rfl) vs i j v h hj
theorem cellsP_set (vs : List Value) : ∀ (i : Nat) (v u : Value), vs[i]? = some v → (cellsP vs).set (i * 11) u = cellsP (vs.set i u) := by
  induction vs with
  | nil => intro i v u h; simp at h
  | cons x vs ih =>
    intro i v u h
    have hc : ∀ y l, cellsP (y :: l) = pcs y ++ cellsP l := fun y l => by simp [cellsP]
    cases i with
    | zero => rw [hc, List.set_cons_zero, hc]; simp [pcs]
    | succ i =>
      simp only [List.getElem?_cons_succ] at h
      rw [hc, List.set_cons_succ, hc, ← ih i v u h, show (i + 1) * 11 = 11 + i * 11 by omega, List.set_append_right _ _ (by show 11 ≤ _; omega)]
      congr 2
      show 11 + i * 11 - 11 = i * 11
      omega
theorem Blk.pset {w : World} {g : Nat} {vs : List Value} (h : Blk w g 69 (cellsP vs).toArray) {i : Nat} {v : Value} (hv : vs[i]? = some v) (u : Value) {w' : World} (h' : Blk w' g 69 ((cellsP vs).toArray.setIfInBounds (i * 11) u)) : Blk w' g 69 (cellsP (vs.set i u)).toArray := by
  rw [← cellsP_set vs i v u hv]
  simpa using h'
theorem pcell {w : World} {g : Nat} {vs : List Value} (h : Blk w g 69 (cellsP vs).toArray) {i : Nat} {v : Value} (hv : vs[i]? = some v) {j : Nat} (hj : j < 11) : w.cell? ⟨g, i * 11 + j, none⟩ = (pcs v)[j]? := by
  rw [h.cell, List.getElem?_toArray]
  exact cellsP_at vs i j v hv hj

/-- The pass c, the variables of '(' and ')', the list's variable pp and its row g. -/
structure PrmS (w : World) (c lp rp pp g n : Nat) (lv rv : Value) (vs : List Value) (esl esr : List LE) (ess : List (List LE)) : Prop where
  bc : Blk w c 52 #[]
  bl : Blk w lp 28 #[lv]
  br : Blk w rp 28 #[rv]
  bp : Blk w pp 62 #[.slice (some ⟨g, 0, none⟩) n n]
  bg : Blk w g 69 (cellsP vs).toArray
  fl : FodN w (fun b => b = lp ∨ b = rp ∨ b = pp ∨ b = g) lv esl
  fr : FodN w (fun b => b = lp ∨ b = rp ∨ b = pp ∨ b = g) rv esr
  fs : ∀ (i : Nat) (v : Value) (es : List LE), vs[i]? = some v → ess[i]? = some es → FodN w (fun b => b = lp ∨ b = rp ∨ b = pp ∨ b = g) v es
  ln : vs.length = n
  le : ess.length = n
  d1 : c ≠ lp ∧ c ≠ rp ∧ c ≠ pp ∧ c ≠ g
  d2 : lp ≠ rp ∧ lp ≠ pp ∧ lp ≠ g ∧ rp ≠ pp ∧ rp ≠ g ∧ pp ≠ g
theorem PrmS.below {w w' : World} {c lp rp pp g n : Nat} {lv rv : Value} {vs : List Value} {esl esr : List LE} {ess : List (List LE)} (h : PrmS w c lp rp pp g n lv rv vs esl esr ess) (hb : Below w.heap.size w w') : PrmS w' c lp rp pp g n lv rv vs esl esr ess :=
  ⟨h.bc.under hb, h.bl.under hb, h.br.under hb, h.bp.under hb, h.bg.under hb, h.fl.below hb, h.fr.below hb, fun i v es h1 h2 => (h.fs i v es h1 h2).below hb, h.ln, h.le, h.d1, h.d2⟩
theorem PrmS.old {w : World} {c lp rp pp g n : Nat} {lv rv : Value} {vs : List Value} {esl esr : List LE} {ess : List (List LE)} (h : PrmS w c lp rp pp g n lv rv vs esl esr ess) : ∀ b, (b = lp ∨ b = rp ∨ b = pp ∨ b = g) → b < w.heap.size := by
  rintro b (h1 | h1 | h1 | h1) <;> rw [h1]
  · exact h.bl.lt
  · exact h.br.lt
  · exact h.bp.lt
  · exact h.bg.lt
/-- ')' got its clean end. -/
theorem PrmS.ensR {w w' : World} {c lp rp pp g n : Nat} {lv rv v' : Value} {vs : List Value} {esl esr es' : List LE} {ess : List (List LE)} (h : PrmS w c lp rp pp g n lv rv vs esl esr ess) (hb : Blk w' rp 28 (#[rv].setIfInBounds 0 v')) (hf : FodN w' (fun b => b = lp ∨ b = rp ∨ b = pp ∨ b = g) v' es') (fr : Fr w w' (fun b => b = rp)) :
    PrmS w' c lp rp pp g n lv v' vs esl es' ess :=
  ⟨fr.blk h.bc h.d1.2.1, fr.blk h.bl h.d2.1, by simpa using hb, fr.blk h.bp fun e => h.d2.2.2.2.1 e.symm, fr.blk h.bg fun e => h.d2.2.2.2.2.1 e.symm, h.fl.fr fr fun b hb => .inr (.inl hb), hf, fun i v es h1 h2 => (h.fs i v es h1 h2).fr fr fun b hb => .inr (.inl hb), h.ln, h.le, h.d1, h.d2⟩
/-- Name i got its clean end. -/
theorem PrmS.ensP {w w' : World} {c lp rp pp g n : Nat} {lv rv v v' : Value} {vs : List Value} {esl esr es' : List LE} {ess : List (List LE)} (h : PrmS w c lp rp pp g n lv rv vs esl esr ess) {i : Nat} (hv : vs[i]? = some v) (hb : Blk w' g 69 ((cellsP vs).toArray.setIfInBounds (i * 11) v')) (hf : FodN w' (fun b => b = lp ∨ b = rp ∨ b = pp ∨ b = g) v' es') (fr : Fr w w' (fun b => b = g)) :
    PrmS w' c lp rp pp g n lv rv (vs.set i v') esl esr (ess.set i es') := by
  refine ⟨fr.blk h.bc h.d1.2.2.2, fr.blk h.bl h.d2.2.2.1, fr.blk h.br h.d2.2.2.2.2.1, fr.blk h.bp h.d2.2.2.2.2.2, h.bg.pset hv v' hb, h.fl.fr fr fun b hb => .inr (.inr (.inr hb)), h.fr.fr fr fun b hb => .inr (.inr (.inr hb)), fun j u es h1 h2 => ?_, by simp [h.ln], by simp [h.le], h.d1, h.d2⟩
  rw [List.getElem?_set] at h1 h2
  by_cases hij : i = j
  · subst hij
    rw [if_pos rfl] at h1 h2
    split at h1
    · split at h2
      · obtain rfl := Option.some.inj h1
        obtain rfl := Option.some.inj h2
        exact hf
      · cases h2
    · cases h1
  · rw [if_neg hij] at h1 h2
    exact (h.fs j u es h1 h2).fr fr fun b hb => .inr (.inr (.inr hb))
/-- Base.Fodder over a fodder that is known. -/
theorem fodN68 (w : World) (c p o : Nat) (t : TypeId) (cs : Array Value) (v : Value) (es : List LE) (X : Nat → Prop) (hc : Blk w c 52 #[]) (hp : Blk w p t cs) (hat : cs[o]? = some v) (hf : FodN w X v es) (b x : Value) :
    Calls Tryf.prog 68 #[b, .iface 48 (.pointer (some ⟨c, 0, none⟩)), .pointer (some ⟨p, o, none⟩), x] w (Fine w) := by
  obtain ⟨a, cp, rfl, h1, _, h2⟩ := hf.open
  exact fod68 w c p o a _ cp t cs #[] hc hp hat h2 h1 b x
theorem fodNil68 (w : World) (c p o : Nat) (t : TypeId) (cs : Array Value) (hc : Blk w c 52 #[]) (hp : Blk w p t cs) (hat : cs[o]? = some (.slice none 0 0)) (b x : Value) :
    Calls Tryf.prog 68 #[b, .iface 48 (.pointer (some ⟨c, 0, none⟩)), .pointer (some ⟨p, o, none⟩), x] w (Fine w) :=
  fod68 w c p o none 0 0 t cs #[] hc hp hat (.inl rfl) (by omega) b x

set_option maxRecDepth 100000 in
set_option maxHeartbeats 3200000 in
theorem base40 (w : World) (c lp rp pp g n : Nat) (lv rv : Value) (vs : List Value) (esl esr : List LE) (ess : List (List LE)) (h : PrmS w c lp rp pp g n lv rv vs esl esr ess) (hn : n ≤ 16384) (b x : Value) :
    Calls Tryf.prog 40 #[b, .iface 48 (.pointer (some ⟨c, 0, none⟩)), .pointer (some ⟨lp, 0, none⟩), .pointer (some ⟨pp, 0, none⟩), .pointer (some ⟨rp, 0, none⟩), x] w (Fine w) := by
  unfold Fine
  have K1 := Lib.hid (fodN68 w c lp 0 28 #[lv] lv esl _ h.bc h.bl rfl h.fl (.pointer (some ⟨c, 0, none⟩)) x)
  have hmet := method_row (P := Tryf.prog) (w := w) (t := 48) (fuel := 377) (name := "Fodder") (k := 68) h.bc (.inr (by kernel_rfl)) (by kernel_rfl)
  have HH := Lib.hid h
  clear h
  go_enter Tryf.func40, Tryf.ntmps40
  go_wp2_with fail
  refine K1.out.mono ?_
  rintro e w1 ⟨rfl, hb1⟩
  have B1 := Lib.hid hb1
  have H1 := Lib.hid (HH.out.below hb1)
  have p0 := H1.out.bp.cell 0
  simp at p0
  have pl := H1.out.bp.lt
  clear hb1 hmet K1
  go_wp2_with fail
  go_loopw [23] (fun i wr => ∃ k : Nat, k ≤ n ∧ i = .int .i64 k ∧ Hid (Below w.heap.size w wr)) (fun i _ => n - (intOf i).toNat)
  case atStart => exact ⟨0, Nat.zero_le _, rfl, B1⟩
  case round =>
    clear p0 pl
    obtain ⟨k, hk, rfl, hbel⟩ := hrel
    have HR := Lib.hid (HH.out.below hbel.out)
    have p0 := HR.out.bp.cell 0
    simp at p0
    have pl := HR.out.bp.lt
    have gl := HR.out.bg.lt
    by_cases hlt : k < n
    · obtain ⟨v, hv⟩ : ∃ v, vs[k]? = some v := ⟨vs[k]'(by rw [HH.out.ln]; exact hlt), by simp⟩
      obtain ⟨es, hes⟩ : ∃ es, ess[k]? = some es := ⟨ess[k]'(by rw [HH.out.le]; exact hlt), by simp⟩
      have HV := Lib.hid hv
      have hat : ∀ j, j < 11 → (cellsP vs).toArray[k * 11 + j]? = (pcs v)[j]? := fun j hj => by rw [List.getElem?_toArray]; exact cellsP_at vs k j v hv hj
      have HAT := Lib.hid hat
      have K2 := Lib.hid (fodN68 wr.drew c g (k * 11) 69 (cellsP vs).toArray v es _ HR.out.bc HR.out.bg (HAT.out 0 (by omega)) (show FodN wr.drew _ v es from HR.out.fs k v es hv hes) (.pointer (some ⟨c, 0, none⟩)) x)
      have hmet := method_row (P := Tryf.prog) (w := wr.drew) (t := 48) (fuel := 377) (name := "Fodder") (k := 68) (show Blk wr.drew c 52 #[] from HR.out.bc) (.inr (by kernel_rfl)) (by kernel_rfl)
      clear hv hes hat
      go_wp2_with fail
      refine wp_region_tail 9 (by kernel_rfl) (by kernel_rfl) ?_
      simp only [List.take_succ_cons, List.take_zero, List.drop_succ_cons, List.drop_zero]
      repeat still_step
      refine wpStill_nil ?_
      go_wp2_with fail
      refine K2.out.mono ?_
      rintro e w2 ⟨rfl, hb2⟩
      have B2 := Lib.hid (hbel.out.drew.trans (hb2.mono hbel.out.size))
      have H2 := Lib.hid (HH.out.below B2.out)
      have g4 := pcell H2.out.bg HV.out (j := 4) (by omega)
      simp [pcs] at g4
      have gl2 := H2.out.bg.lt
      have hmet2 := method_row (P := Tryf.prog) (w := w2.drew) (t := 48) (fuel := 377) (name := "Fodder") (k := 68) (show Blk w2.drew c 52 #[] from H2.out.bc) (.inr (by kernel_rfl)) (by kernel_rfl)
      have K3 := Lib.hid (fodNil68 w2.drew c g (k * 11 + 2) 69 (cellsP vs).toArray H2.out.bc H2.out.bg (HAT.out 2 (by omega)) (.pointer (some ⟨c, 0, none⟩)) x)
      clear hb2 hmet K2
      go_wp2_with fail
      refine wp_region_tail 9 (by kernel_rfl) (by kernel_rfl) ?_
      simp only [List.take_succ_cons, List.take_zero, List.drop_succ_cons, List.drop_zero]
      repeat still_step
      refine wpStill_nil ?_
      go_wp2_with fail
      refine K3.out.mono ?_
      rintro e w3 ⟨rfl, hb3⟩
      have B3 := Lib.hid (B2.out.drew.trans (hb3.mono B2.out.size))
      clear hb3 hmet2 K3
      go_wp2_with fail
      go_roundw
      case rel => exact ⟨k + 1, by omega, by go_num, B3⟩
      case measure => simp [intOf]; omega
    · obtain rfl : k = n := by omega
      have K4 := Lib.hid (fodN68 wr c rp 0 28 #[rv] rv esr _ HR.out.bc HR.out.br rfl HR.out.fr (.pointer (some ⟨c, 0, none⟩)) x)
      have hmet := method_row (P := Tryf.prog) (w := wr) (t := 48) (fuel := 377) (name := "Fodder") (k := 68) HR.out.bc (.inr (by kernel_rfl)) (by kernel_rfl)
      go_wp2_with fail
      refine K4.out.mono ?_
      rintro e w4 ⟨rfl, hb4⟩
      have B4 := Lib.hid (hbel.out.trans (hb4.mono hbel.out.size))
      clear hb4
      go_wp2_with fail
      go_end0
      exact ⟨rfl, B4.out⟩
end Go.Proofs.YtlaghkppjdphnaaFmt
