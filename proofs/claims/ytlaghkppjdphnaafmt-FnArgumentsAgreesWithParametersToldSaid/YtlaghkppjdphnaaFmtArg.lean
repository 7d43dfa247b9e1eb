/- Arguments in memory; Base.Arguments. -/
import Derived.Test.YtlaghkppjdphnaaFmtPrf
namespace Go.Proofs.YtlaghkppjdphnaaFmt
open Go.RowKit
set_option linter.unusedVariables false

/-- The cells of one positional argument (its literal at block ln), of one named one (its name's fodder, its literal's block). -/
def acs (ln : Nat) : List Value := [.iface 26 (.pointer (some ⟨ln, 0, none⟩)), .slice none 0 0]
def ncs (p : Value × Nat) : List Value := [p.1, .string ⟨#[]⟩, .slice none 0 0, .iface 26 (.pointer (some ⟨p.2, 0, none⟩)), .slice none 0 0]
def cellsA (l : List Nat) : List Value := l.flatMap acs
def cellsN (l : List (Value × Nat)) : List Value := l.flatMap ncs
theorem cellsA_at (l : List Nat) (i j : Nat) (v : Nat) (h : l[i]? = some v) (hj : j < 2) : (cellsA l)[i * 2 + j]? = (acs v)[j]? := flat_at acs 2 (fun _ => rfl) l i j v h hj
theorem cellsN_at (l : List (Value × Nat)) (i j : Nat) (v : Value × Nat) (h : l[i]? = some v) (hj : j < 5) : (cellsN l)[i * 5 + j]? = (ncs v)[j]? := flat_at ncs 5 (fun _ => rfl) l i j v h hj
structure ArgS (w : World) (X : Nat → Prop) (c lp rp bb pg ng pn nn : Nat) (lns : List Nat) (lv rv lt : Value) (vs : List Value) (us : List (Value × Nat)) (esl esr : List LE) (ps ns : List (List LE)) : Prop where
  bc : Blk w c 52 #[]
  bl : Blk w lp 28 #[lv]
  br : Blk w rp 28 #[rv]
  ba : Blk w bb 78 #[.slice (some ⟨pg, 0, none⟩) pn pn, .slice (some ⟨ng, 0, none⟩) nn nn, lt]
  bp : Blk w pg 101 (cellsA lns).toArray
  bn : Blk w ng 83 (cellsN us).toArray
  lit : ∀ (i ln : Nat) (v : Value), lns[i]? = some ln → vs[i]? = some v → Blk w ln 42 (nullC v)
  mit : ∀ (i : Nat) (p : Value × Nat), us[i]? = some p → Blk w p.2 42 (nullC (.slice none 0 0)) ∧ ¬ X p.2 ∧ c ≠ p.2
  fl : FodN w X lv esl
  fr : FodN w X rv esr
  fp : ∀ (i : Nat) (v : Value) (es : List LE), vs[i]? = some v → ps[i]? = some es → FodN w X v es
  fn : ∀ (i : Nat) (p : Value × Nat) (es : List LE), us[i]? = some p → ns[i]? = some es → FodN w X p.1 es
  l1 : lns.length = pn
  l2 : vs.length = pn
  l3 : ps.length = pn
  l4 : us.length = nn
  l5 : ns.length = nn
  old : ∀ b, X b → b < w.heap.size
  xs : X lp ∧ X rp ∧ X ng ∧ ∀ ln ∈ lns, X ln
  nx : ¬ X c ∧ ¬ X bb ∧ ¬ X pg
  d1 : lp ≠ rp ∧ lp ≠ ng ∧ rp ≠ ng
  d2 : ∀ ln ∈ lns, ln ≠ lp ∧ ln ≠ rp ∧ ln ≠ ng
  d3 : ∀ (i j a : Nat), lns[i]? = some a → lns[j]? = some a → i = j
theorem ArgS.below {w w' : World} {X : Nat → Prop} {c lp rp bb pg ng pn nn : Nat} {lns : List Nat} {lv rv lt : Value} {vs : List Value} {us : List (Value × Nat)} {esl esr : List LE} {ps ns : List (List LE)} (h : ArgS w X c lp rp bb pg ng pn nn lns lv rv lt vs us esl esr ps ns) (hb : Below w.heap.size w w') :
    ArgS w' X c lp rp bb pg ng pn nn lns lv rv lt vs us esl esr ps ns :=
  ⟨h.bc.under hb, h.bl.under hb, h.br.under hb, h.ba.under hb, h.bp.under hb, h.bn.under hb, fun i ln v h1 h2 => (h.lit i ln v h1 h2).under hb, fun i p h1 => ⟨(h.mit i p h1).1.under hb, (h.mit i p h1).2⟩, h.fl.below hb, h.fr.below hb, fun i v es h1 h2 => (h.fp i v es h1 h2).below hb, fun i p es h1 h2 => (h.fn i p es h1 h2).below hb,
    h.l1, h.l2, h.l3, h.l4, h.l5, fun b hx => Nat.lt_of_lt_of_le (h.old b hx) hb.size, h.xs, h.nx, h.d1, h.d2, h.d3⟩

set_option maxRecDepth 100000 in
set_option maxHeartbeats 6400000 in
theorem base41 (w : World) (X : Nat → Prop) (c lp rp bb pg ng pn nn : Nat) (lns : List Nat) (lv rv lt : Value) (vs : List Value) (us : List (Value × Nat)) (esl esr : List LE) (ps ns : List (List LE)) (h : ArgS w X c lp rp bb pg ng pn nn lns lv rv lt vs us esl esr ps ns) (hn1 : pn ≤ 16384) (hn2 : nn ≤ 16384) (b x : Value) :
    Calls Tryf.prog 41 #[b, .iface 48 (.pointer (some ⟨c, 0, none⟩)), .pointer (some ⟨lp, 0, none⟩), .pointer (some ⟨bb, 0, none⟩), .pointer (some ⟨rp, 0, none⟩), x] w (Fine w) := by
  unfold Fine
  have K1 := Lib.hid (fodN68 w c lp 0 28 #[lv] lv esl _ h.bc h.bl rfl h.fl (.pointer (some ⟨c, 0, none⟩)) x)
  have hmet := method_row (P := Tryf.prog) (w := w) (t := 48) (fuel := 377) (name := "Fodder") (k := 68) h.bc (.inr (by kernel_rfl)) (by kernel_rfl)
  have HH := Lib.hid h
  clear h
  go_enter Tryf.func41, Tryf.ntmps41
  go_wp2_with fail
  refine K1.out.mono ?_
  rintro e w1 ⟨rfl, hb1⟩
  have B1 := Lib.hid hb1
  have H1 := Lib.hid (HH.out.below hb1)
  have p0 := H1.out.ba.cell 0
  simp at p0
  have pl := H1.out.ba.lt
  clear hb1 hmet K1
  go_wp2_with fail
  go_loopw [26] (fun i wr => ∃ k : Nat, k ≤ pn ∧ i = .int .i64 k ∧ Hid (Below w.heap.size w wr)) (fun i _ => pn - (intOf i).toNat)
  case atStart => exact ⟨0, Nat.zero_le _, rfl, B1⟩
  case round =>
    clear p0 pl
    obtain ⟨k, hk, rfl, hbel⟩ := hrel
    obtain ⟨wo, hwo⟩ : ∃ wo, wo = wr := ⟨_, rfl⟩
    subst hwo
    have HR := Lib.hid (HH.out.below hbel.out)
    have p0 := HR.out.ba.cell 0
    have p1 := HR.out.ba.cell 1
    simp at p0 p1
    have pl := HR.out.ba.lt
    have gl := HR.out.bp.lt
    by_cases hlt : k < pn
    · obtain ⟨ln, hln⟩ : ∃ v, lns[k]? = some v := ⟨lns[k]'(by rw [HH.out.l1]; exact hlt), by simp⟩
      obtain ⟨v, hv⟩ : ∃ v, vs[k]? = some v := ⟨vs[k]'(by rw [HH.out.l2]; exact hlt), by simp⟩
      obtain ⟨es, hes⟩ : ∃ es, ps[k]? = some es := ⟨ps[k]'(by rw [HH.out.l3]; exact hlt), by simp⟩
      have hat : ∀ j, j < 2 → (cellsA lns).toArray[k * 2 + j]? = (acs ln)[j]? := fun j hj => by rw [List.getElem?_toArray]; exact cellsA_at lns k j ln hln hj
      have HAT := Lib.hid hat
      have hxl := HH.out.xs.2.2.2 ln (List.mem_of_getElem? hln)
      have hlit : Blk wo.drew ln 42 (nullC v) := HR.out.lit k ln v hln hv
      have hfv := HR.out.fp k v es hv hes
      obtain ⟨va, vc, rfl, hv1, _, hv2⟩ := hfv.open
      have K2 := Lib.hid (visit69 wo.drew c pg (k * 2) ln va _ vc 101 (cellsA lns).toArray #[] HR.out.bc HR.out.bp (HAT.out 0 (by omega)) hlit (fun e => HH.out.nx.2.2 (e ▸ hxl)) (fun e => HH.out.nx.1 (e ▸ hxl)) hv2 hv1 (.pointer (some ⟨c, 0, none⟩)) x)
      have hmet := method_row (P := Tryf.prog) (w := wo.drew) (t := 48) (fuel := 377) (name := "Visit") (k := 69) (show Blk wo.drew c 52 #[] from HR.out.bc) (.inr (by kernel_rfl)) (by kernel_rfl)
      clear hln hv hes hat hlit hfv
      go_wp2_with fail
      refine wp_region_tail 9 (by kernel_rfl) (by kernel_rfl) ?_
      simp only [List.take_succ_cons, List.take_zero, List.drop_succ_cons, List.drop_zero]
      repeat still_step
      refine wpStill_nil ?_
      go_wp2_with fail
      refine K2.out.mono ?_
      rintro e w2 ⟨rfl, hb2⟩
      have B2 := Lib.hid (hbel.out.drew.trans (hb2.mono hbel.out.size))
      have H2 := Lib.hid (HH.out.below B2.out)
      have gl2 := H2.out.bp.lt
      have hmet2 := method_row (P := Tryf.prog) (w := w2.drew) (t := 48) (fuel := 377) (name := "Fodder") (k := 68) (show Blk w2.drew c 52 #[] from H2.out.bc) (.inr (by kernel_rfl)) (by kernel_rfl)
      have K3 := Lib.hid (fodNil68 w2.drew c pg (k * 2 + 1) 101 (cellsA lns).toArray H2.out.bc H2.out.bp (HAT.out 1 (by omega)) (.pointer (some ⟨c, 0, none⟩)) x)
      clear hb2 hmet K2
      go_wp2_with fail
      refine wp_region_tail 9 (by kernel_rfl) (by kernel_rfl) ?_
      simp only [List.take_succ_cons, List.take_zero, List.drop_succ_cons, List.drop_zero]
      repeat still_step
      refine wpStill_nil ?_
      go_wp2_with fail
      refine K3.out.mono ?_
      rintro e w3 ⟨rfl, hb3⟩
      have B3 := Lib.hid (B2.out.drew.trans (hb3.mono B2.out.size))
      clear hb3 hmet2 K3
      go_wp2_with fail
      go_roundw
      case rel => exact ⟨k + 1, by omega, by go_num, B3⟩
      case measure => simp [intOf]; omega
    · obtain rfl : k = pn := by omega
      clear p0
      go_wp2_with fail
      go_loopw [61] (fun i wr => ∃ k : Nat, k ≤ nn ∧ i = .int .i64 k ∧ Hid (Below w.heap.size w wr)) (fun i _ => nn - (intOf i).toNat)
      case atStart => exact ⟨0, Nat.zero_le _, rfl, hbel⟩
      case round =>
        rename_i wx
        clear p1 pl gl HR hbel
        obtain ⟨j, hj, rfl, hbel⟩ := hrel
        obtain ⟨wp, hwp⟩ : ∃ wp, wp = wr := ⟨_, rfl⟩
        subst hwp
        have HR := Lib.hid (HH.out.below hbel.out)
        have p1 := HR.out.ba.cell 1
        simp at p1
        have pl := HR.out.ba.lt
        have gl := HR.out.bn.lt
        by_cases hlt2 : j < nn
        · obtain ⟨q, hq⟩ : ∃ v, us[j]? = some v := ⟨us[j]'(by rw [HH.out.l4]; exact hlt2), by simp⟩
          obtain ⟨es, hes⟩ : ∃ es, ns[j]? = some es := ⟨ns[j]'(by rw [HH.out.l5]; exact hlt2), by simp⟩
          obtain ⟨v, mn⟩ := q
          have HQ := Lib.hid hq
          have hat : ∀ i, i < 5 → (cellsN us).toArray[j * 5 + i]? = (ncs (v, mn))[i]? := fun i hi => by rw [List.getElem?_toArray]; exact cellsN_at us j i (v, mn) hq hi
          have HAT := Lib.hid hat
          have K2 := Lib.hid (fodN68 wp.drew c ng (j * 5) 83 (cellsN us).toArray v es X HR.out.bc HR.out.bn (HAT.out 0 (by omega)) (show FodN wp.drew _ v es from HR.out.fn j (v, mn) es hq hes) (.pointer (some ⟨c, 0, none⟩)) x)
          have hmet := method_row (P := Tryf.prog) (w := wp.drew) (t := 48) (fuel := 377) (name := "Fodder") (k := 68) (show Blk wp.drew c 52 #[] from HR.out.bc) (.inr (by kernel_rfl)) (by kernel_rfl)
          clear hq hes hat
          go_wp2_with fail
          refine wp_region_tail 9 (by kernel_rfl) (by kernel_rfl) ?_
          simp only [List.take_succ_cons, List.take_zero, List.drop_succ_cons, List.drop_zero]
          repeat still_step
          refine wpStill_nil ?_
          go_wp2_with fail
          refine K2.out.mono ?_
          rintro e w2 ⟨rfl, hb2⟩
          have B2 := Lib.hid (hbel.out.drew.trans (hb2.mono hbel.out.size))
          have H2 := Lib.hid (HH.out.below B2.out)
          have gl2 := H2.out.bn.lt
          have hmet2 := method_row (P := Tryf.prog) (w := w2.drew) (t := 48) (fuel := 377) (name := "Fodder") (k := 68) (show Blk w2.drew c 52 #[] from H2.out.bc) (.inr (by kernel_rfl)) (by kernel_rfl)
          have K3 := Lib.hid (fodNil68 w2.drew c ng (j * 5 + 2) 83 (cellsN us).toArray H2.out.bc H2.out.bn (HAT.out 2 (by omega)) (.pointer (some ⟨c, 0, none⟩)) x)
          clear hb2 hmet K2
          go_wp2_with fail
          refine wp_region_tail 9 (by kernel_rfl) (by kernel_rfl) ?_
          simp only [List.take_succ_cons, List.take_zero, List.drop_succ_cons, List.drop_zero]
          repeat still_step
          refine wpStill_nil ?_
          go_wp2_with fail
          refine K3.out.mono ?_
          rintro e w3 ⟨rfl, hb3⟩
          have B3 := Lib.hid (B2.out.drew.trans (hb3.mono B2.out.size))
          have H3 := Lib.hid (HH.out.below B3.out)
          have gl3 := H3.out.bn.lt
          have hmm := H3.out.mit j (v, mn) HQ.out
          have hmet3 := method_row (P := Tryf.prog) (w := w3.drew) (t := 48) (fuel := 377) (name := "Visit") (k := 69) (show Blk w3.drew c 52 #[] from H3.out.bc) (.inr (by kernel_rfl)) (by kernel_rfl)
          have K4 := Lib.hid (visit69 w3.drew c ng (j * 5 + 3) mn none 0 0 83 (cellsN us).toArray #[] H3.out.bc H3.out.bn (HAT.out 3 (by omega)) hmm.1 (fun e => hmm.2.1 (e ▸ HH.out.xs.2.2.1)) hmm.2.2 (.inl rfl) (by omega) (.pointer (some ⟨c, 0, none⟩)) x)
          clear hb3 hmet2 K3 hmm
          go_wp2_with fail
          refine wp_region_tail 9 (by kernel_rfl) (by kernel_rfl) ?_
          simp only [List.take_succ_cons, List.take_zero, List.drop_succ_cons, List.drop_zero]
          repeat still_step
          refine wpStill_nil ?_
          go_wp2_with fail
          refine K4.out.mono ?_
          rintro e w4 ⟨rfl, hb4⟩
          have B4 := Lib.hid (B3.out.drew.trans (hb4.mono B3.out.size))
          have H4 := Lib.hid (HH.out.below B4.out)
          have gl4 := H4.out.bn.lt
          have hmet4 := method_row (P := Tryf.prog) (w := w4.drew) (t := 48) (fuel := 377) (name := "Fodder") (k := 68) (show Blk w4.drew c 52 #[] from H4.out.bc) (.inr (by kernel_rfl)) (by kernel_rfl)
          have K5 := Lib.hid (fodNil68 w4.drew c ng (j * 5 + 4) 83 (cellsN us).toArray H4.out.bc H4.out.bn (HAT.out 4 (by omega)) (.pointer (some ⟨c, 0, none⟩)) x)
          clear hb4 hmet3 K4
          go_wp2_with fail
          refine wp_region_tail 9 (by kernel_rfl) (by kernel_rfl) ?_
          simp only [List.take_succ_cons, List.take_zero, List.drop_succ_cons, List.drop_zero]
          repeat still_step
          refine wpStill_nil ?_
          go_wp2_with fail
          refine K5.out.mono ?_
          rintro e w5 ⟨rfl, hb5⟩
          have B5 := Lib.hid (B4.out.drew.trans (hb5.mono B4.out.size))
          clear hb5 hmet4 K5
          go_wp2_with fail
          go_roundw
          case rel => exact ⟨j + 1, by omega, by go_num, B5⟩
          case measure => simp [intOf]; omega
        · obtain rfl : j = nn := by omega
          have K6 := Lib.hid (fodN68 wp c rp 0 28 #[rv] rv esr _ HR.out.bc HR.out.br rfl HR.out.fr (.pointer (some ⟨c, 0, none⟩)) x)
          have hmet := method_row (P := Tryf.prog) (w := wp) (t := 48) (fuel := 377) (name := "Fodder") (k := 68) HR.out.bc (.inr (by kernel_rfl)) (by kernel_rfl)
          go_wp2_with fail
          refine K6.out.mono ?_
          rintro e w6 ⟨rfl, hb6⟩
          have B6 := Lib.hid (hbel.out.trans (hb6.mono hbel.out.size))
          clear hb6
          go_wp2_with fail
          go_end0
          exact ⟨rfl, B6.out⟩
end Go.Proofs.YtlaghkppjdphnaaFmt
