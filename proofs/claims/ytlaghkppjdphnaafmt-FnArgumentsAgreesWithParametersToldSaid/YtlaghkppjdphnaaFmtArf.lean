/- FixNewlines.Arguments. -/
import Derived.Test.YtlaghkppjdphnaaFmtArh
namespace Go.Proofs.YtlaghkppjdphnaaFmt
open Go.RowKit
set_option linter.unusedVariables false

def ArgD (w : World) (X : Nat → Prop) (c lp rp bb pg ng pn nn : Nat) (lns : List Nat) (lv lt : Value) (esl esr : List LE) (ps ns : List (List LE)) (e : Ending) (w' : World) : Prop :=
  e = .returned (.tuple #[]) ∧ (∃ rv' vs' us', ArgS w' X c lp rp bb pg ng pn nn lns lv rv' lt vs' us' esl esr ps ns) ∧ Fr w w' X

set_option maxRecDepth 100000 in
set_option maxHeartbeats 6400000 in
theorem arg30 (w : World) (X : Nat → Prop) (c lp rp bb pg ng pn nn : Nat) (lns : List Nat) (lv rv lt : Value) (vs : List Value) (us : List (Value × Nat)) (esl esr : List LE) (ps ns : List (List LE)) (h : ArgS w X c lp rp bb pg ng pn nn lns lv rv lt vs us esl esr ps ns) (hn1 : pn ≤ 16384) (hn2 : nn ≤ 16384) (h1 : ∀ es ∈ ps ++ ns, ∀ e ∈ es, OkL e) (h2 : ∀ e ∈ esr, OkL e) (x : Value) :
    Calls Tryf.prog 30 #[.pointer (some ⟨c, 0, none⟩), .iface 48 (.pointer (some ⟨c, 0, none⟩)), .pointer (some ⟨lp, 0, none⟩), .pointer (some ⟨bb, 0, none⟩), .pointer (some ⟨rp, 0, none⟩), x] w
      (ArgD w X c lp rp bb pg ng pn nn lns lv lt esl (fix (nearA (ps ++ ns) (pn + nn) || hasL esr) esr) ((fixP (nearA (ps ++ ns) (pn + nn) || hasL esr) (betA (ps ++ ns) (pn + nn)) (ps ++ ns)).take pn) ((fixP (nearA (ps ++ ns) (pn + nn) || hasL esr) (betA (ps ++ ns) (pn + nn)) (ps ++ ns)).drop pn)) := by
  unfold ArgD
  have HH := Lib.hid h
  have HO1 := Lib.hid h1
  have HO2 := Lib.hid h2
  have p0 := h.ba.cell 0
  simp at p0
  have pl := h.ba.lt
  have hEP : ∀ (i : Nat) (es : List LE), ps[i]? = some es → (ps ++ ns)[i]? = some es := fun i es hi => by rw [List.getElem?_append_left (List.getElem?_eq_some_iff.1 hi).1]; exact hi
  have hEN : ∀ (i : Nat) (es : List LE), ns[i]? = some es → (ps ++ ns)[pn + i]? = some es := fun i es hi => by rw [List.getElem?_append_right (by rw [h.l3]; omega), h.l3, Nat.add_sub_cancel_left]; exact hi
  have HEP := Lib.hid hEP
  have HEN := Lib.hid hEN
  have HEL := Lib.hid (show (ps ++ ns).length = pn + nn by rw [List.length_append, h.l3, h.l5])
  generalize hess : ps ++ ns = ess at *
  obtain ⟨nr, hnr⟩ : ∃ nr, nr = (nearA ess (pn + nn) || hasL esr) := ⟨_, rfl⟩
  obtain ⟨bt, hbt⟩ : ∃ bt, bt = betA ess (pn + nn) := ⟨_, rfl⟩
  rw [← hnr, ← hbt]
  have HNR := Lib.hid hnr
  have HBT := Lib.hid hbt
  have HESS := Lib.hid hess
  clear h h1 h2 hnr hbt hEP hEN hess
  go_enter Tryf.func30, Tryf.ntmps30
  go_wp2_with fail
  go_loopw [12, 13, 14, 28] (fun b a f i wr => ∃ k : Nat, k ≤ pn ∧ i = .int .i64 k ∧ b = .bool (betA ess k) ∧ a = .bool (nearA ess k) ∧ f = .bool (decide (k = 0)) ∧ Hid (Below w.heap.size w wr)) (fun _ _ _ i _ => pn - (intOf i).toNat)
  case atStart => exact ⟨0, Nat.zero_le _, rfl, by simp [betA], by simp [nearA], rfl, Lib.hid (Below.refl _ _)⟩
  case round =>
    clear p0 pl
    obtain ⟨k, hk, rfl, rfl, rfl, rfl, hbel⟩ := hrel
    obtain ⟨wo, hwo⟩ : ∃ wo, wo = wr := ⟨_, rfl⟩
    subst hwo
    have HR := Lib.hid (HH.out.below hbel.out)
    have p0 := HR.out.ba.cell 0
    have p1 := HR.out.ba.cell 1
    simp at p0 p1
    have pl := HR.out.ba.lt
    have gr := HR.out.bp.lt
    by_cases hlt : k < pn
    · obtain ⟨ln, hln⟩ : ∃ v, lns[k]? = some v := ⟨lns[k]'(by rw [HH.out.l1]; exact hlt), by simp⟩
      obtain ⟨v, hv⟩ : ∃ v, vs[k]? = some v := ⟨vs[k]'(by rw [HH.out.l2]; exact hlt), by simp⟩
      obtain ⟨es, hes⟩ : ∃ es, ps[k]? = some es := ⟨ps[k]'(by rw [HH.out.l3]; exact hlt), by simp⟩
      have HES := Lib.hid (HEP.out k es hes)
      have y0 : wo.cell? ⟨pg, k * 2, none⟩ = some (.iface 26 (.pointer (some ⟨ln, 0, none⟩))) := by rw [HR.out.bp.cell, List.getElem?_toArray]; exact cellsA_at lns k 0 ln hln (by omega)
      have y1 : wo.cell? ⟨pg, k * 2 + 1, none⟩ = some (.slice none 0 0) := by rw [HR.out.bp.cell, List.getElem?_toArray]; exact cellsA_at lns k 1 ln hln (by omega)
      have hlit := HR.out.lit k ln v hln hv
      have z0 := hlit.cell 0
      simp [nullC] at z0
      have zl := hlit.lt
      obtain ⟨va, vc, rfl, _⟩ := (HR.out.fp k v es hv hes).open
      have hfp := HR.out.fp k _ es hv hes
      have KC := Lib.hid (fun o => (hfp.below ((Below.refl wo.heap.size wo).alloc (Nat.le_refl _) o)).cnt (HO1.out es (List.mem_of_getElem? HES.out)))
      clear hln hv hes hlit hfp
      go_wp2_with fail
      refine (openF35 _ ln).mono ?_
      rintro e w1 ⟨rfl, rfl⟩
      go_wp2_with fail
      refine (KC.out _).mono ?_
      rintro e w2 ⟨m, rfl, hb2, hm, hp⟩
      have B2 := Lib.hid ((hbel.out.alloc hbel.out.size _).trans (hb2.mono (by have := hbel.out.size; simp; omega)))
      clear hb2 KC y0 y1 z0 zl p0 p1 pl
      by_cases hk0 : k = 0
      · subst hk0
        have hA := Lib.hid (nearA_one ess es HES.out)
        have hB := Lib.hid (betA_one ess)
        rw [show nearA ess 0 = false by simp [nearA], show betA ess 0 = false by simp [betA]]
        by_cases hm0 : 0 < m
        · have hx : hasL es = true := by rw [hp]; simpa using hm0
          rw [hx] at hA
          clear hx hp
          go_wp2_with fail
          go_roundw
          case rel => exact ⟨1, by omega, by go_num, by rw [hB.out], by rw [hA.out], rfl, B2⟩
          case measure => simp [intOf]; omega
        · have hx : hasL es = false := by rw [hp]; simpa using hm0
          rw [hx] at hA
          clear hx hp
          go_wp2_with fail
          go_roundw
          case rel => exact ⟨1, by omega, by go_num, by rw [hB.out], by rw [hA.out], rfl, B2⟩
          case measure => simp [intOf]; omega
      · have hA := Lib.hid (nearA_succ ess k (by omega))
        have hB := Lib.hid (betA_succ ess k (by omega) es HES.out)
        have hd : decide (k = 0) = false := by simpa using hk0
        rw [hd]
        by_cases hm0 : 0 < m
        · have hx : hasL es = true := by rw [hp]; simpa using hm0
          rw [hx, Bool.or_true] at hB
          clear hx hp hd
          go_wp2_with fail
          go_roundw
          case rel => exact ⟨k + 1, by omega, by go_num, by rw [hB.out], by rw [hA.out], by simp, B2⟩
          case measure => simp [intOf]; omega
        · have hx : hasL es = false := by rw [hp]; simpa using hm0
          rw [hx, Bool.or_false] at hB
          clear hx hp hd
          go_wp2_with fail
          go_roundw
          case rel => exact ⟨k + 1, by omega, by go_num, by rw [hB.out], by rw [hA.out], by simp, B2⟩
          case measure => simp [intOf]; omega
    · obtain rfl : k = pn := by omega
      clear p0
      go_wp2_with fail
      go_loopw [12, 13, 14, 46] (fun b a f i wr => ∃ j : Nat, j ≤ nn ∧ i = .int .i64 j ∧ b = .bool (betA ess (k + j)) ∧ a = .bool (nearA ess (k + j)) ∧ f = .bool (decide (k + j = 0)) ∧ Hid (Below w.heap.size w wr)) (fun _ _ _ i _ => nn - (intOf i).toNat)
      case atStart => exact ⟨0, Nat.zero_le _, rfl, rfl, rfl, rfl, hbel⟩
      case round =>
        clear p1 pl gr HR hbel
        rename_i wx
        obtain ⟨j, hj, rfl, rfl, rfl, rfl, hbel⟩ := hrel
        obtain ⟨wp, hwp⟩ : ∃ wp, wp = wr := ⟨_, rfl⟩
        subst hwp
        have HR := Lib.hid (HH.out.below hbel.out)
        have p1 := HR.out.ba.cell 1
        simp at p1
        have pl := HR.out.ba.lt
        have gr := HR.out.bn.lt
        by_cases hlt2 : j < nn
        · obtain ⟨q, hq⟩ : ∃ v, us[j]? = some v := ⟨us[j]'(by rw [HH.out.l4]; exact hlt2), by simp⟩
          obtain ⟨es, hes⟩ : ∃ es, ns[j]? = some es := ⟨ns[j]'(by rw [HH.out.l5]; exact hlt2), by simp⟩
          obtain ⟨v, mn⟩ := q
          have HES := Lib.hid (HEN.out j es hes)
          have hcc : ∀ i, i < 5 → wp.cell? ⟨ng, j * 5 + i, none⟩ = (ncs (v, mn))[i]? := fun i hi => by rw [HR.out.bn.cell, List.getElem?_toArray]; exact cellsN_at us j i (v, mn) hq hi
          have y0 := hcc 0 (by omega)
          have y1 := hcc 1 (by omega)
          have y2 := hcc 2 (by omega)
          have y3 := hcc 3 (by omega)
          have y4 := hcc 4 (by omega)
          have hfp := HR.out.fn j (v, mn) es hq hes
          simp only at hfp
          obtain ⟨va, vc, rfl, _⟩ := hfp.open
          simp [ncs] at y0 y1 y2 y3 y4
          have KC := Lib.hid (fun o => (hfp.below ((Below.refl wp.heap.size wp).alloc (Nat.le_refl _) o)).cnt (HO1.out es (List.mem_of_getElem? HES.out)))
          clear hq hes hfp hcc
          go_wp2_with fail
          refine (KC.out _).mono ?_
          rintro e w2 ⟨m, rfl, hb2, hm, hp⟩
          have B2 := Lib.hid ((hbel.out.alloc hbel.out.size _).trans (hb2.mono (by have := hbel.out.size; simp; omega)))
          clear hb2 KC y0 y1 y2 y3 y4 p1 pl
          by_cases hk0 : k + j = 0
          · have hA := Lib.hid (nearA_one ess es (by have := HES.out; rwa [hk0] at this))
            have hB := Lib.hid (betA_one ess)
            have e1 : k + (j + 1) = 1 := by omega
            have hd : decide (k + j = 0) = true := by simpa using hk0
            rw [hd, show nearA ess (k + j) = false by rw [hk0]; simp [nearA], show betA ess (k + j) = false by rw [hk0]; simp [betA]]
            have HK0 := Lib.hid hk0
            have HE1 := Lib.hid e1
            clear hk0 e1 hd
            by_cases hm0 : 0 < m
            · have hx : hasL es = true := by rw [hp]; simpa using hm0
              rw [hx] at hA
              clear hx hp
              go_wp2_with fail
              go_roundw
              case rel => exact ⟨j + 1, by omega, by go_num, by rw [HE1.out, hB.out], by rw [HE1.out, hA.out], by rw [HE1.out]; rfl, B2⟩
              case measure => simp [intOf]; omega
            · have hx : hasL es = false := by rw [hp]; simpa using hm0
              rw [hx] at hA
              clear hx hp
              go_wp2_with fail
              go_roundw
              case rel => exact ⟨j + 1, by omega, by go_num, by rw [HE1.out, hB.out], by rw [HE1.out, hA.out], by rw [HE1.out]; rfl, B2⟩
              case measure => simp [intOf]; omega
          · have hA := Lib.hid (nearA_succ ess (k + j) (by omega))
            have hB := Lib.hid (betA_succ ess (k + j) (by omega) es HES.out)
            have hd : decide (k + j = 0) = false := by simpa using hk0
            have HD : Hid (decide (k + (j + 1) = 0) = false) := Lib.hid (by simp)
            rw [hd]
            clear hk0 hd
            by_cases hm0 : 0 < m
            · have hx : hasL es = true := by rw [hp]; simpa using hm0
              rw [hx, Bool.or_true] at hB
              clear hx hp
              go_wp2_with fail
              go_roundw
              case rel => exact ⟨j + 1, by omega, by go_num, by rw [← Nat.add_assoc, hB.out], by rw [← Nat.add_assoc, hA.out], by rw [HD.out], B2⟩
              case measure => simp [intOf]; omega
            · have hx : hasL es = false := by rw [hp]; simpa using hm0
              rw [hx, Bool.or_false] at hB
              clear hx hp
              go_wp2_with fail
              go_roundw
              case rel => exact ⟨j + 1, by omega, by go_num, by rw [← Nat.add_assoc, hB.out], by rw [← Nat.add_assoc, hA.out], by rw [HD.out], B2⟩
              case measure => simp [intOf]; omega
        · obtain rfl : j = nn := by omega
          have KR := Lib.hid (HR.out.fr.cnt HO2.out)
          have r0 := HR.out.br.cell 0
          simp at r0
          have rl := HR.out.br.lt
          obtain ⟨ra, rc, rfl, _⟩ := HR.out.fr.open
          obtain ⟨na, hna⟩ : ∃ na, na = nearA ess (k + j) := ⟨_, rfl⟩
          rw [← hna]
          rw [← hna] at HNR
          rw [← HBT.out]
          clear hna p1
          go_wp2_with fail
          refine KR.out.mono ?_
          rintro e w2 ⟨m2, rfl, hb2, hm2, hp2⟩
          have B2 := Lib.hid (hbel.out.trans (hb2.mono hbel.out.size))
          have H2 := Lib.hid (HH.out.below B2.out)
          have q0 := H2.out.ba.cell 0
          simp at q0
          have ql := H2.out.ba.lt
          have HPP := Lib.hid hp2
          clear hb2 hp2 KR r0 rl HR gr pl hbel
          cases na
          · by_cases g2 : 0 < m2
            · have g2 : 0 < m2 := g2
              have hnr : nr = true := by rw [HNR.out, HPP.out]; simpa using g2
              subst hnr
              obtain ⟨FP, hFP⟩ : ∃ FP, FP = (fixP true bt ess).take k := ⟨_, rfl⟩
              obtain ⟨FN, hFN⟩ : ∃ FN, FN = (fixP true bt ess).drop k := ⟨_, rfl⟩
              have HFP : Hid (∀ i, i < k → FP[i]? = (fixP true bt ess)[i]?) := Lib.hid (fun i hi => by rw [hFP, List.getElem?_take_of_lt hi])
              have HFN : Hid (∀ i, FN[i]? = (fixP true bt ess)[k + i]?) := Lib.hid (fun i => by rw [hFN, List.getElem?_drop])
              have HFPL : Hid (FP.length = k) := Lib.hid (by rw [hFP, List.length_take, fixP_len, HEL.out]; omega)
              have HFNL : Hid (FN.length = j) := Lib.hid (by rw [hFN, List.length_drop, fixP_len, HEL.out]; omega)
              have GFP := Lib.hid hFP
              have GFN := Lib.hid hFN
              clear hFP hFN
              go_wp2_with fail
              go_loopw [14, 66] (fun f i w3 => ∃ i1 : Nat, i1 ≤ k ∧ i = .int .i64 i1 ∧ f = .bool (decide (i1 = 0)) ∧ Hid (∃ vs', ArgS w3 X c lp rp bb pg ng k j lns lv (.slice ra esr.length rc) lt vs' us esl esr (mix FP ps i1) ns) ∧ Hid (Fr w w3 X)) (fun _ i _ => k - (intOf i).toNat)
              case atStart => exact ⟨0, Nat.zero_le _, rfl, rfl, Lib.hid ⟨vs, by rw [mix_zero]; exact H2.out⟩, Lib.hid (Fr.of_below B2.out _)⟩
              case round =>
                clear q0 ql
                obtain ⟨i1, hi1, rfl, rfl, hps, hfr⟩ := hrel
                obtain ⟨wq, hwq⟩ : ∃ wq, wq = wr := ⟨_, rfl⟩
                subst hwq
                obtain ⟨vs', hps⟩ := hps.out
                have HP := Lib.hid hps
                have q0 := hps.ba.cell 0
                have q1 := hps.ba.cell 1
                simp at q0 q1
                have ql := hps.ba.lt
                have gl3 := hps.bp.lt
                have fll : ps.length = FP.length := by rw [HFPL.out, HH.out.l3]
                by_cases hjt : i1 < k
                · obtain ⟨ln, hln⟩ : ∃ v, lns[i1]? = some v := ⟨lns[i1]'(by rw [HH.out.l1]; exact hjt), by simp⟩
                  obtain ⟨es, hes⟩ : ∃ es, ps[i1]? = some es := ⟨ps[i1]'(by rw [HH.out.l3]; exact hjt), by simp⟩
                  obtain ⟨v, hv⟩ : ∃ v, vs'[i1]? = some v := ⟨vs'[i1]'(by rw [hps.l2]; exact hjt), by simp⟩
                  have HES := Lib.hid (HEP.out i1 es hes)
                  have HLN := Lib.hid hln
                  have HV := Lib.hid hv
                  have hxl : X ln := HH.out.xs.2.2.2 ln (List.mem_of_getElem? hln)
                  have hmx : (mix FP ps i1)[i1]? = some es := by rw [mix_at _ _ _ fll (by rw [HFPL.out]; exact hjt)]; exact hes
                  have y0 : wq.cell? ⟨pg, i1 * 2, none⟩ = some (.iface 26 (.pointer (some ⟨ln, 0, none⟩))) := by rw [hps.bp.cell, List.getElem?_toArray]; exact cellsA_at lns i1 0 ln hln (by omega)
                  have KE := Lib.hid (ens36 wq X ln 0 42 (nullC v) v es (hps.lit i1 ln v hln hv) rfl (hps.fp i1 v es hv hmx) hps.old hxl)
                  clear hps hes hln hv
                  by_cases hj0 : i1 = 0
                  · have hd : decide (i1 = 0) = true := by simpa using hj0
                    rw [hd]
                    have hfa : FP[i1]? = some (ens es) := by rw [HFP.out i1 hjt, fixP_at true bt ess i1 es HES.out, if_pos hj0]; simp [fix]
                    have HST := Lib.hid (mix_set FP ps i1 _ fll hfa)
                    have HJ0 := Lib.hid hj0
                    clear hfa hj0 hd
                    go_wp2_with fail
                    refine (openF35 _ ln).mono ?_
                    rintro e w9 ⟨rfl, rfl⟩
                    go_wp2_with fail
                    refine KE.out.mono ?_
                    rintro e w4 ⟨rfl, ⟨v', hb4, hf4⟩, hfr4⟩
                    have H4 := Lib.hid (HP.out.ensA HLN.out HV.out hb4 hf4 hfr4)
                    have F4 := Lib.hid (hfr.out.step hfr4 (fun b hb h => h ▸ hxl))
                    clear hb4 hf4 hfr4 KE
                    go_wp2_with fail
                    go_roundw
                    case rel => exact ⟨i1 + 1, by omega, by go_num, by simp, Lib.hid ⟨_, by rw [← HST.out]; exact H4.out⟩, F4⟩
                    case measure => simp [intOf]; omega
                  · have hd : decide (i1 = 0) = false := by simpa using hj0
                    rw [hd]
                    cases bt with
                    | true =>
                      have hfa : FP[i1]? = some (ens es) := by rw [HFP.out i1 hjt, fixP_at true true ess i1 es HES.out, if_neg hj0]; simp [fix]
                      have HST := Lib.hid (mix_set FP ps i1 _ fll hfa)
                      clear hfa
                      go_wp2_with fail
                      refine (openF35 _ ln).mono ?_
                      rintro e w9 ⟨rfl, rfl⟩
                      go_wp2_with fail
                      refine KE.out.mono ?_
                      rintro e w4 ⟨rfl, ⟨v', hb4, hf4⟩, hfr4⟩
                      have H4 := Lib.hid (HP.out.ensA HLN.out HV.out hb4 hf4 hfr4)
                      have F4 := Lib.hid (hfr.out.step hfr4 (fun b hb h => h ▸ hxl))
                      clear hb4 hf4 hfr4 KE
                      go_wp2_with fail
                      go_roundw
                      case rel => exact ⟨i1 + 1, by omega, by go_num, by simp, Lib.hid ⟨_, by rw [← HST.out]; exact H4.out⟩, F4⟩
                      case measure => simp [intOf]; omega
                    | false =>
                      have hfa : FP[i1]? = some (es) := by rw [HFP.out i1 hjt, fixP_at true false ess i1 es HES.out, if_neg hj0]; simp [fix]
                      have HST := Lib.hid (mix_set FP ps i1 _ fll hfa)
                      have HSM := Lib.hid (set_same _ i1 es hmx)
                      clear hfa KE
                      go_wp2_with fail
                      go_roundw
                      case rel => exact ⟨i1 + 1, by omega, by go_num, by simp, Lib.hid ⟨vs', by rw [← HST.out, HSM.out]; exact HP.out⟩, hfr⟩
                      case measure => simp [intOf]; omega
                · obtain rfl : i1 = k := by omega
                  have HP0 := Lib.hid HP.out
                  have hmxa : mix FP ps i1 = FP := mix_all _ _ _ HFPL.out HH.out.l3
                  rw [hmxa] at HP0
                  clear hps HP hmxa fll q0 gl3
                  go_wp2_with fail
                  go_loopw [14, 98] (fun f i w3 => ∃ i2 : Nat, i2 ≤ j ∧ i = .int .i64 i2 ∧ f = .bool (decide (i1 + i2 = 0)) ∧ Hid (∃ vs' us', ArgS w3 X c lp rp bb pg ng i1 j lns lv (.slice ra esr.length rc) lt vs' us' esl esr FP (mix FN ns i2)) ∧ Hid (Fr w w3 X)) (fun _ i _ => j - (intOf i).toNat)
                  case atStart => exact ⟨0, Nat.zero_le _, rfl, rfl, Lib.hid ⟨vs', us, by rw [mix_zero]; exact HP0.out⟩, hfr⟩
                  case round =>
                    clear q1 ql hfr
                    obtain ⟨i2, hi2, rfl, rfl, hps, hfr⟩ := hrel
                    obtain ⟨wz, hwz⟩ : ∃ wz, wz = wr := ⟨_, rfl⟩
                    subst hwz
                    obtain ⟨vs', us', hps⟩ := hps.out
                    have HP := Lib.hid hps
                    have q1 := hps.ba.cell 1
                    simp at q1
                    have ql := hps.ba.lt
                    have gl3 := hps.bn.lt
                    have fll : ns.length = FN.length := by rw [HFNL.out, HH.out.l5]
                    by_cases hjt : i2 < j
                    · obtain ⟨q, hq⟩ : ∃ v, us'[i2]? = some v := ⟨us'[i2]'(by rw [hps.l4]; exact hjt), by simp⟩
                      obtain ⟨es, hes⟩ : ∃ es, ns[i2]? = some es := ⟨ns[i2]'(by rw [HH.out.l5]; exact hjt), by simp⟩
                      obtain ⟨v, mn⟩ := q
                      have HES := Lib.hid (HEN.out i2 es hes)
                      have HV := Lib.hid hq
                      have hmx : (mix FN ns i2)[i2]? = some es := by rw [mix_at _ _ _ fll (by rw [HFNL.out]; exact hjt)]; exact hes
                      have KE := Lib.hid (ens36 wz X ng (i2 * 5) 83 (cellsN us').toArray v es hps.bn (by rw [List.getElem?_toArray]; exact cellsN_at us' i2 0 (v, mn) hq (by omega)) (hps.fn i2 (v, mn) es hq hmx) hps.old HH.out.xs.2.2.1)
                      clear hps hes hq
                      by_cases hj0 : i1 + i2 = 0
                      · have hd : decide (i1 + i2 = 0) = true := by simpa using hj0
                        rw [hd]
                        have hfa : FN[i2]? = some (ens es) := by rw [HFN.out i2, fixP_at true bt ess (i1 + i2) es HES.out, if_pos hj0]; simp [fix]
                        have HST := Lib.hid (mix_set FN ns i2 _ fll hfa)
                        have HJ0 := Lib.hid hj0
                        clear hfa hj0 hd
                        go_wp2_with fail
                        refine KE.out.mono ?_
                        rintro e w4 ⟨rfl, ⟨v', hb4, hf4⟩, hfr4⟩
                        have H4 := Lib.hid (HP.out.ensN HV.out hb4 hf4 hfr4)
                        have F4 := Lib.hid (hfr.out.step hfr4 (fun b hb h => h ▸ HH.out.xs.2.2.1))
                        clear hb4 hf4 hfr4 KE
                        go_wp2_with fail
                        go_roundw
                        case rel => exact ⟨i2 + 1, by omega, by go_num, by simp, Lib.hid ⟨_, _, by rw [← HST.out]; exact H4.out⟩, F4⟩
                        case measure => simp [intOf]; omega
                      · have hd : decide (i1 + i2 = 0) = false := by simpa using hj0
                        rw [hd]
                        cases bt with
                        | true =>
                          have hfa : FN[i2]? = some (ens es) := by rw [HFN.out i2, fixP_at true true ess (i1 + i2) es HES.out, if_neg hj0]; simp [fix]
                          have HST := Lib.hid (mix_set FN ns i2 _ fll hfa)
                          clear hfa
                          go_wp2_with fail
                          refine KE.out.mono ?_
                          rintro e w4 ⟨rfl, ⟨v', hb4, hf4⟩, hfr4⟩
                          have H4 := Lib.hid (HP.out.ensN HV.out hb4 hf4 hfr4)
                          have F4 := Lib.hid (hfr.out.step hfr4 (fun b hb h => h ▸ HH.out.xs.2.2.1))
                          clear hb4 hf4 hfr4 KE
                          go_wp2_with fail
                          go_roundw
                          case rel => exact ⟨i2 + 1, by omega, by go_num, by simp, Lib.hid ⟨_, _, by rw [← HST.out]; exact H4.out⟩, F4⟩
                          case measure => simp [intOf]; omega
                        | false =>
                          have hfa : FN[i2]? = some (es) := by rw [HFN.out i2, fixP_at true false ess (i1 + i2) es HES.out, if_neg hj0]; simp [fix]
                          have HST := Lib.hid (mix_set FN ns i2 _ fll hfa)
                          have HSM := Lib.hid (set_same _ i2 es hmx)
                          clear hfa KE
                          go_wp2_with fail
                          go_roundw
                          case rel => exact ⟨i2 + 1, by omega, by go_num, by simp, Lib.hid ⟨vs', us', by rw [← HST.out, HSM.out]; exact HP.out⟩, hfr⟩
                          case measure => simp [intOf]; omega
                    · obtain rfl : i2 = j := by omega
                      have HPN := Lib.hid HP.out
                      have hmxa : mix FN ns i2 = FN := mix_all _ _ _ HFNL.out HH.out.l5
                      rw [hmxa] at HPN
                      clear hps HP hmxa fll gl3
                      have KE := Lib.hid (ens36 _ X rp 0 28 _ _ _ HPN.out.br rfl HPN.out.fr HPN.out.old HPN.out.xs.2.1)
                      go_wp2_with fail
                      refine KE.out.mono ?_
                      rintro e w4 ⟨rfl, ⟨v', hb4, hf4⟩, hfr4⟩
                      have H4 := Lib.hid (HPN.out.ensR hb4 hf4 hfr4)
                      have F4 := Lib.hid (hfr.out.step hfr4 fun b hb h => h ▸ HH.out.xs.2.1)
                      clear hb4 hf4 hfr4 KE q1 ql
                      have cl4 := H4.out.bc.lt
                      have hpart := partAt0 (P := Tryf.prog) H4.out.bc (.inr (by kernel_rfl))
                      go_wp2_with fail
                      refine (base41 _ X c lp rp bb pg ng i1 i2 lns lv _ lt _ _ esl _ _ _ H4.out hn1 hn2 _ x).mono ?_
                      rintro e w5 ⟨rfl, hb5⟩
                      have H5 := Lib.hid (H4.out.below hb5)
                      have F5 := Lib.hid (F4.out.step (Fr.of_below hb5 (fun _ => False)) fun b hb h => h.elim)
                      clear hb5
                      go_wp2_with fail
                      go_end0
                      have h9 := H5.out
                      rw [GFP.out, GFN.out] at h9
                      exact ⟨rfl, ⟨_, _, _, h9⟩, F5.out⟩
            · have g2 : ¬ 0 < m2 := g2
              have hnr : nr = false := by rw [HNR.out, HPP.out]; simpa using g2
              subst hnr
              obtain ⟨FP, hFP⟩ : ∃ FP, FP = (fixP false bt ess).take k := ⟨_, rfl⟩
              obtain ⟨FN, hFN⟩ : ∃ FN, FN = (fixP false bt ess).drop k := ⟨_, rfl⟩
              have HFP : Hid (∀ i, i < k → FP[i]? = (fixP false bt ess)[i]?) := Lib.hid (fun i hi => by rw [hFP, List.getElem?_take_of_lt hi])
              have HFN : Hid (∀ i, FN[i]? = (fixP false bt ess)[k + i]?) := Lib.hid (fun i => by rw [hFN, List.getElem?_drop])
              have HFPL : Hid (FP.length = k) := Lib.hid (by rw [hFP, List.length_take, fixP_len, HEL.out]; omega)
              have HFNL : Hid (FN.length = j) := Lib.hid (by rw [hFN, List.length_drop, fixP_len, HEL.out]; omega)
              have GFP := Lib.hid hFP
              have GFN := Lib.hid hFN
              clear hFP hFN
              go_wp2_with fail
              go_loopw [14, 66] (fun f i w3 => ∃ i1 : Nat, i1 ≤ k ∧ i = .int .i64 i1 ∧ f = .bool (decide (i1 = 0)) ∧ Hid (∃ vs', ArgS w3 X c lp rp bb pg ng k j lns lv (.slice ra esr.length rc) lt vs' us esl esr (mix FP ps i1) ns) ∧ Hid (Fr w w3 X)) (fun _ i _ => k - (intOf i).toNat)
              case atStart => exact ⟨0, Nat.zero_le _, rfl, rfl, Lib.hid ⟨vs, by rw [mix_zero]; exact H2.out⟩, Lib.hid (Fr.of_below B2.out _)⟩
              case round =>
                clear q0 ql
                obtain ⟨i1, hi1, rfl, rfl, hps, hfr⟩ := hrel
                obtain ⟨wq, hwq⟩ : ∃ wq, wq = wr := ⟨_, rfl⟩
                subst hwq
                obtain ⟨vs', hps⟩ := hps.out
                have HP := Lib.hid hps
                have q0 := hps.ba.cell 0
                have q1 := hps.ba.cell 1
                simp at q0 q1
                have ql := hps.ba.lt
                have gl3 := hps.bp.lt
                have fll : ps.length = FP.length := by rw [HFPL.out, HH.out.l3]
                by_cases hjt : i1 < k
                · obtain ⟨ln, hln⟩ : ∃ v, lns[i1]? = some v := ⟨lns[i1]'(by rw [HH.out.l1]; exact hjt), by simp⟩
                  obtain ⟨es, hes⟩ : ∃ es, ps[i1]? = some es := ⟨ps[i1]'(by rw [HH.out.l3]; exact hjt), by simp⟩
                  obtain ⟨v, hv⟩ : ∃ v, vs'[i1]? = some v := ⟨vs'[i1]'(by rw [hps.l2]; exact hjt), by simp⟩
                  have HES := Lib.hid (HEP.out i1 es hes)
                  have HLN := Lib.hid hln
                  have HV := Lib.hid hv
                  have hxl : X ln := HH.out.xs.2.2.2 ln (List.mem_of_getElem? hln)
                  have hmx : (mix FP ps i1)[i1]? = some es := by rw [mix_at _ _ _ fll (by rw [HFPL.out]; exact hjt)]; exact hes
                  have y0 : wq.cell? ⟨pg, i1 * 2, none⟩ = some (.iface 26 (.pointer (some ⟨ln, 0, none⟩))) := by rw [hps.bp.cell, List.getElem?_toArray]; exact cellsA_at lns i1 0 ln hln (by omega)
                  have KE := Lib.hid (ens36 wq X ln 0 42 (nullC v) v es (hps.lit i1 ln v hln hv) rfl (hps.fp i1 v es hv hmx) hps.old hxl)
                  clear hps hes hln hv
                  by_cases hj0 : i1 = 0
                  · have hd : decide (i1 = 0) = true := by simpa using hj0
                    rw [hd]
                    have hfa : FP[i1]? = some (es) := by rw [HFP.out i1 hjt, fixP_at false bt ess i1 es HES.out, if_pos hj0]; simp [fix]
                    have HST := Lib.hid (mix_set FP ps i1 _ fll hfa)
                    have HSM := Lib.hid (set_same _ i1 es hmx)
                    have HJ0 := Lib.hid hj0
                    clear hfa KE hj0 hd
                    go_wp2_with fail
                    go_roundw
                    case rel => exact ⟨i1 + 1, by omega, by go_num, by simp, Lib.hid ⟨vs', by rw [← HST.out, HSM.out]; exact HP.out⟩, hfr⟩
                    case measure => simp [intOf]; omega
                  · have hd : decide (i1 = 0) = false := by simpa using hj0
                    rw [hd]
                    cases bt with
                    | true =>
                      have hfa : FP[i1]? = some (ens es) := by rw [HFP.out i1 hjt, fixP_at false true ess i1 es HES.out, if_neg hj0]; simp [fix]
                      have HST := Lib.hid (mix_set FP ps i1 _ fll hfa)
                      clear hfa
                      go_wp2_with fail
                      refine (openF35 _ ln).mono ?_
                      rintro e w9 ⟨rfl, rfl⟩
                      go_wp2_with fail
                      refine KE.out.mono ?_
                      rintro e w4 ⟨rfl, ⟨v', hb4, hf4⟩, hfr4⟩
                      have H4 := Lib.hid (HP.out.ensA HLN.out HV.out hb4 hf4 hfr4)
                      have F4 := Lib.hid (hfr.out.step hfr4 (fun b hb h => h ▸ hxl))
                      clear hb4 hf4 hfr4 KE
                      go_wp2_with fail
                      go_roundw
                      case rel => exact ⟨i1 + 1, by omega, by go_num, by simp, Lib.hid ⟨_, by rw [← HST.out]; exact H4.out⟩, F4⟩
                      case measure => simp [intOf]; omega
                    | false =>
                      have hfa : FP[i1]? = some (es) := by rw [HFP.out i1 hjt, fixP_at false false ess i1 es HES.out, if_neg hj0]; simp [fix]
                      have HST := Lib.hid (mix_set FP ps i1 _ fll hfa)
                      have HSM := Lib.hid (set_same _ i1 es hmx)
                      clear hfa KE
                      go_wp2_with fail
                      go_roundw
                      case rel => exact ⟨i1 + 1, by omega, by go_num, by simp, Lib.hid ⟨vs', by rw [← HST.out, HSM.out]; exact HP.out⟩, hfr⟩
                      case measure => simp [intOf]; omega
                · obtain rfl : i1 = k := by omega
                  have HP0 := Lib.hid HP.out
                  have hmxa : mix FP ps i1 = FP := mix_all _ _ _ HFPL.out HH.out.l3
                  rw [hmxa] at HP0
                  clear hps HP hmxa fll q0 gl3
                  go_wp2_with fail
                  go_loopw [14, 98] (fun f i w3 => ∃ i2 : Nat, i2 ≤ j ∧ i = .int .i64 i2 ∧ f = .bool (decide (i1 + i2 = 0)) ∧ Hid (∃ vs' us', ArgS w3 X c lp rp bb pg ng i1 j lns lv (.slice ra esr.length rc) lt vs' us' esl esr FP (mix FN ns i2)) ∧ Hid (Fr w w3 X)) (fun _ i _ => j - (intOf i).toNat)
                  case atStart => exact ⟨0, Nat.zero_le _, rfl, rfl, Lib.hid ⟨vs', us, by rw [mix_zero]; exact HP0.out⟩, hfr⟩
                  case round =>
                    clear q1 ql hfr
                    obtain ⟨i2, hi2, rfl, rfl, hps, hfr⟩ := hrel
                    obtain ⟨wz, hwz⟩ : ∃ wz, wz = wr := ⟨_, rfl⟩
                    subst hwz
                    obtain ⟨vs', us', hps⟩ := hps.out
                    have HP := Lib.hid hps
                    have q1 := hps.ba.cell 1
                    simp at q1
                    have ql := hps.ba.lt
                    have gl3 := hps.bn.lt
                    have fll : ns.length = FN.length := by rw [HFNL.out, HH.out.l5]
                    by_cases hjt : i2 < j
                    · obtain ⟨q, hq⟩ : ∃ v, us'[i2]? = some v := ⟨us'[i2]'(by rw [hps.l4]; exact hjt), by simp⟩
                      obtain ⟨es, hes⟩ : ∃ es, ns[i2]? = some es := ⟨ns[i2]'(by rw [HH.out.l5]; exact hjt), by simp⟩
                      obtain ⟨v, mn⟩ := q
                      have HES := Lib.hid (HEN.out i2 es hes)
                      have HV := Lib.hid hq
                      have hmx : (mix FN ns i2)[i2]? = some es := by rw [mix_at _ _ _ fll (by rw [HFNL.out]; exact hjt)]; exact hes
                      have KE := Lib.hid (ens36 wz X ng (i2 * 5) 83 (cellsN us').toArray v es hps.bn (by rw [List.getElem?_toArray]; exact cellsN_at us' i2 0 (v, mn) hq (by omega)) (hps.fn i2 (v, mn) es hq hmx) hps.old HH.out.xs.2.2.1)
                      clear hps hes hq
                      by_cases hj0 : i1 + i2 = 0
                      · have hd : decide (i1 + i2 = 0) = true := by simpa using hj0
                        rw [hd]
                        have hfa : FN[i2]? = some (es) := by rw [HFN.out i2, fixP_at false bt ess (i1 + i2) es HES.out, if_pos hj0]; simp [fix]
                        have HST := Lib.hid (mix_set FN ns i2 _ fll hfa)
                        have HSM := Lib.hid (set_same _ i2 es hmx)
                        have HJ0 := Lib.hid hj0
                        clear hfa KE hj0 hd
                        go_wp2_with fail
                        go_roundw
                        case rel => exact ⟨i2 + 1, by omega, by go_num, by simp, Lib.hid ⟨vs', us', by rw [← HST.out, HSM.out]; exact HP.out⟩, hfr⟩
                        case measure => simp [intOf]; omega
                      · have hd : decide (i1 + i2 = 0) = false := by simpa using hj0
                        rw [hd]
                        cases bt with
                        | true =>
                          have hfa : FN[i2]? = some (ens es) := by rw [HFN.out i2, fixP_at false true ess (i1 + i2) es HES.out, if_neg hj0]; simp [fix]
                          have HST := Lib.hid (mix_set FN ns i2 _ fll hfa)
                          clear hfa
                          go_wp2_with fail
                          refine KE.out.mono ?_
                          rintro e w4 ⟨rfl, ⟨v', hb4, hf4⟩, hfr4⟩
                          have H4 := Lib.hid (HP.out.ensN HV.out hb4 hf4 hfr4)
                          have F4 := Lib.hid (hfr.out.step hfr4 (fun b hb h => h ▸ HH.out.xs.2.2.1))
                          clear hb4 hf4 hfr4 KE
                          go_wp2_with fail
                          go_roundw
                          case rel => exact ⟨i2 + 1, by omega, by go_num, by simp, Lib.hid ⟨_, _, by rw [← HST.out]; exact H4.out⟩, F4⟩
                          case measure => simp [intOf]; omega
                        | false =>
                          have hfa : FN[i2]? = some (es) := by rw [HFN.out i2, fixP_at false false ess (i1 + i2) es HES.out, if_neg hj0]; simp [fix]
                          have HST := Lib.hid (mix_set FN ns i2 _ fll hfa)
                          have HSM := Lib.hid (set_same _ i2 es hmx)
                          clear hfa KE
                          go_wp2_with fail
                          go_roundw
                          case rel => exact ⟨i2 + 1, by omega, by go_num, by simp, Lib.hid ⟨vs', us', by rw [← HST.out, HSM.out]; exact HP.out⟩, hfr⟩
                          case measure => simp [intOf]; omega
                    · obtain rfl : i2 = j := by omega
                      have HPN := Lib.hid HP.out
                      have hmxa : mix FN ns i2 = FN := mix_all _ _ _ HFNL.out HH.out.l5
                      rw [hmxa] at HPN
                      clear hps HP hmxa fll gl3
                      have H4 := HPN
                      have F4 := hfr
                      have cl4 := H4.out.bc.lt
                      have hpart := partAt0 (P := Tryf.prog) H4.out.bc (.inr (by kernel_rfl))
                      go_wp2_with fail
                      refine (base41 _ X c lp rp bb pg ng i1 i2 lns lv _ lt _ _ esl _ _ _ H4.out hn1 hn2 _ x).mono ?_
                      rintro e w5 ⟨rfl, hb5⟩
                      have H5 := Lib.hid (H4.out.below hb5)
                      have F5 := Lib.hid (F4.out.step (Fr.of_below hb5 (fun _ => False)) fun b hb h => h.elim)
                      clear hb5
                      go_wp2_with fail
                      go_end0
                      have h9 := H5.out
                      rw [GFP.out, GFN.out] at h9
                      exact ⟨rfl, ⟨_, _, _, h9⟩, F5.out⟩
          · by_cases g2 : 0 < m2
            · have g2 : 0 < m2 := g2
              have hnr : nr = true := by rw [HNR.out, HPP.out]; simp
              subst hnr
              obtain ⟨FP, hFP⟩ : ∃ FP, FP = (fixP true bt ess).take k := ⟨_, rfl⟩
              obtain ⟨FN, hFN⟩ : ∃ FN, FN = (fixP true bt ess).drop k := ⟨_, rfl⟩
              have HFP : Hid (∀ i, i < k → FP[i]? = (fixP true bt ess)[i]?) := Lib.hid (fun i hi => by rw [hFP, List.getElem?_take_of_lt hi])
              have HFN : Hid (∀ i, FN[i]? = (fixP true bt ess)[k + i]?) := Lib.hid (fun i => by rw [hFN, List.getElem?_drop])
              have HFPL : Hid (FP.length = k) := Lib.hid (by rw [hFP, List.length_take, fixP_len, HEL.out]; omega)
              have HFNL : Hid (FN.length = j) := Lib.hid (by rw [hFN, List.length_drop, fixP_len, HEL.out]; omega)
              have GFP := Lib.hid hFP
              have GFN := Lib.hid hFN
              clear hFP hFN
              go_wp2_with fail
              go_loopw [14, 66] (fun f i w3 => ∃ i1 : Nat, i1 ≤ k ∧ i = .int .i64 i1 ∧ f = .bool (decide (i1 = 0)) ∧ Hid (∃ vs', ArgS w3 X c lp rp bb pg ng k j lns lv (.slice ra esr.length rc) lt vs' us esl esr (mix FP ps i1) ns) ∧ Hid (Fr w w3 X)) (fun _ i _ => k - (intOf i).toNat)
              case atStart => exact ⟨0, Nat.zero_le _, rfl, rfl, Lib.hid ⟨vs, by rw [mix_zero]; exact H2.out⟩, Lib.hid (Fr.of_below B2.out _)⟩
              case round =>
                clear q0 ql
                obtain ⟨i1, hi1, rfl, rfl, hps, hfr⟩ := hrel
                obtain ⟨wq, hwq⟩ : ∃ wq, wq = wr := ⟨_, rfl⟩
                subst hwq
                obtain ⟨vs', hps⟩ := hps.out
                have HP := Lib.hid hps
                have q0 := hps.ba.cell 0
                have q1 := hps.ba.cell 1
                simp at q0 q1
                have ql := hps.ba.lt
                have gl3 := hps.bp.lt
                have fll : ps.length = FP.length := by rw [HFPL.out, HH.out.l3]
                by_cases hjt : i1 < k
                · obtain ⟨ln, hln⟩ : ∃ v, lns[i1]? = some v := ⟨lns[i1]'(by rw [HH.out.l1]; exact hjt), by simp⟩
                  obtain ⟨es, hes⟩ : ∃ es, ps[i1]? = some es := ⟨ps[i1]'(by rw [HH.out.l3]; exact hjt), by simp⟩
                  obtain ⟨v, hv⟩ : ∃ v, vs'[i1]? = some v := ⟨vs'[i1]'(by rw [hps.l2]; exact hjt), by simp⟩
                  have HES := Lib.hid (HEP.out i1 es hes)
                  have HLN := Lib.hid hln
                  have HV := Lib.hid hv
                  have hxl : X ln := HH.out.xs.2.2.2 ln (List.mem_of_getElem? hln)
                  have hmx : (mix FP ps i1)[i1]? = some es := by rw [mix_at _ _ _ fll (by rw [HFPL.out]; exact hjt)]; exact hes
                  have y0 : wq.cell? ⟨pg, i1 * 2, none⟩ = some (.iface 26 (.pointer (some ⟨ln, 0, none⟩))) := by rw [hps.bp.cell, List.getElem?_toArray]; exact cellsA_at lns i1 0 ln hln (by omega)
                  have KE := Lib.hid (ens36 wq X ln 0 42 (nullC v) v es (hps.lit i1 ln v hln hv) rfl (hps.fp i1 v es hv hmx) hps.old hxl)
                  clear hps hes hln hv
                  by_cases hj0 : i1 = 0
                  · have hd : decide (i1 = 0) = true := by simpa using hj0
                    rw [hd]
                    have hfa : FP[i1]? = some (ens es) := by rw [HFP.out i1 hjt, fixP_at true bt ess i1 es HES.out, if_pos hj0]; simp [fix]
                    have HST := Lib.hid (mix_set FP ps i1 _ fll hfa)
                    have HJ0 := Lib.hid hj0
                    clear hfa hj0 hd
                    go_wp2_with fail
                    refine (openF35 _ ln).mono ?_
                    rintro e w9 ⟨rfl, rfl⟩
                    go_wp2_with fail
                    refine KE.out.mono ?_
                    rintro e w4 ⟨rfl, ⟨v', hb4, hf4⟩, hfr4⟩
                    have H4 := Lib.hid (HP.out.ensA HLN.out HV.out hb4 hf4 hfr4)
                    have F4 := Lib.hid (hfr.out.step hfr4 (fun b hb h => h ▸ hxl))
                    clear hb4 hf4 hfr4 KE
                    go_wp2_with fail
                    go_roundw
                    case rel => exact ⟨i1 + 1, by omega, by go_num, by simp, Lib.hid ⟨_, by rw [← HST.out]; exact H4.out⟩, F4⟩
                    case measure => simp [intOf]; omega
                  · have hd : decide (i1 = 0) = false := by simpa using hj0
                    rw [hd]
                    cases bt with
                    | true =>
                      have hfa : FP[i1]? = some (ens es) := by rw [HFP.out i1 hjt, fixP_at true true ess i1 es HES.out, if_neg hj0]; simp [fix]
                      have HST := Lib.hid (mix_set FP ps i1 _ fll hfa)
                      clear hfa
                      go_wp2_with fail
                      refine (openF35 _ ln).mono ?_
                      rintro e w9 ⟨rfl, rfl⟩
                      go_wp2_with fail
                      refine KE.out.mono ?_
                      rintro e w4 ⟨rfl, ⟨v', hb4, hf4⟩, hfr4⟩
                      have H4 := Lib.hid (HP.out.ensA HLN.out HV.out hb4 hf4 hfr4)
                      have F4 := Lib.hid (hfr.out.step hfr4 (fun b hb h => h ▸ hxl))
                      clear hb4 hf4 hfr4 KE
                      go_wp2_with fail
                      go_roundw
                      case rel => exact ⟨i1 + 1, by omega, by go_num, by simp, Lib.hid ⟨_, by rw [← HST.out]; exact H4.out⟩, F4⟩
                      case measure => simp [intOf]; omega
                    | false =>
                      have hfa : FP[i1]? = some (es) := by rw [HFP.out i1 hjt, fixP_at true false ess i1 es HES.out, if_neg hj0]; simp [fix]
                      have HST := Lib.hid (mix_set FP ps i1 _ fll hfa)
                      have HSM := Lib.hid (set_same _ i1 es hmx)
                      clear hfa KE
                      go_wp2_with fail
                      go_roundw
                      case rel => exact ⟨i1 + 1, by omega, by go_num, by simp, Lib.hid ⟨vs', by rw [← HST.out, HSM.out]; exact HP.out⟩, hfr⟩
                      case measure => simp [intOf]; omega
                · obtain rfl : i1 = k := by omega
                  have HP0 := Lib.hid HP.out
                  have hmxa : mix FP ps i1 = FP := mix_all _ _ _ HFPL.out HH.out.l3
                  rw [hmxa] at HP0
                  clear hps HP hmxa fll q0 gl3
                  go_wp2_with fail
                  go_loopw [14, 98] (fun f i w3 => ∃ i2 : Nat, i2 ≤ j ∧ i = .int .i64 i2 ∧ f = .bool (decide (i1 + i2 = 0)) ∧ Hid (∃ vs' us', ArgS w3 X c lp rp bb pg ng i1 j lns lv (.slice ra esr.length rc) lt vs' us' esl esr FP (mix FN ns i2)) ∧ Hid (Fr w w3 X)) (fun _ i _ => j - (intOf i).toNat)
                  case atStart => exact ⟨0, Nat.zero_le _, rfl, rfl, Lib.hid ⟨vs', us, by rw [mix_zero]; exact HP0.out⟩, hfr⟩
                  case round =>
                    clear q1 ql hfr
                    obtain ⟨i2, hi2, rfl, rfl, hps, hfr⟩ := hrel
                    obtain ⟨wz, hwz⟩ : ∃ wz, wz = wr := ⟨_, rfl⟩
                    subst hwz
                    obtain ⟨vs', us', hps⟩ := hps.out
                    have HP := Lib.hid hps
                    have q1 := hps.ba.cell 1
                    simp at q1
                    have ql := hps.ba.lt
                    have gl3 := hps.bn.lt
                    have fll : ns.length = FN.length := by rw [HFNL.out, HH.out.l5]
                    by_cases hjt : i2 < j
                    · obtain ⟨q, hq⟩ : ∃ v, us'[i2]? = some v := ⟨us'[i2]'(by rw [hps.l4]; exact hjt), by simp⟩
                      obtain ⟨es, hes⟩ : ∃ es, ns[i2]? = some es := ⟨ns[i2]'(by rw [HH.out.l5]; exact hjt), by simp⟩
                      obtain ⟨v, mn⟩ := q
                      have HES := Lib.hid (HEN.out i2 es hes)
                      have HV := Lib.hid hq
                      have hmx : (mix FN ns i2)[i2]? = some es := by rw [mix_at _ _ _ fll (by rw [HFNL.out]; exact hjt)]; exact hes
                      have KE := Lib.hid (ens36 wz X ng (i2 * 5) 83 (cellsN us').toArray v es hps.bn (by rw [List.getElem?_toArray]; exact cellsN_at us' i2 0 (v, mn) hq (by omega)) (hps.fn i2 (v, mn) es hq hmx) hps.old HH.out.xs.2.2.1)
                      clear hps hes hq
                      by_cases hj0 : i1 + i2 = 0
                      · have hd : decide (i1 + i2 = 0) = true := by simpa using hj0
                        rw [hd]
                        have hfa : FN[i2]? = some (ens es) := by rw [HFN.out i2, fixP_at true bt ess (i1 + i2) es HES.out, if_pos hj0]; simp [fix]
                        have HST := Lib.hid (mix_set FN ns i2 _ fll hfa)
                        have HJ0 := Lib.hid hj0
                        clear hfa hj0 hd
                        go_wp2_with fail
                        refine KE.out.mono ?_
                        rintro e w4 ⟨rfl, ⟨v', hb4, hf4⟩, hfr4⟩
                        have H4 := Lib.hid (HP.out.ensN HV.out hb4 hf4 hfr4)
                        have F4 := Lib.hid (hfr.out.step hfr4 (fun b hb h => h ▸ HH.out.xs.2.2.1))
                        clear hb4 hf4 hfr4 KE
                        go_wp2_with fail
                        go_roundw
                        case rel => exact ⟨i2 + 1, by omega, by go_num, by simp, Lib.hid ⟨_, _, by rw [← HST.out]; exact H4.out⟩, F4⟩
                        case measure => simp [intOf]; omega
                      · have hd : decide (i1 + i2 = 0) = false := by simpa using hj0
                        rw [hd]
                        cases bt with
                        | true =>
                          have hfa : FN[i2]? = some (ens es) := by rw [HFN.out i2, fixP_at true true ess (i1 + i2) es HES.out, if_neg hj0]; simp [fix]
                          have HST := Lib.hid (mix_set FN ns i2 _ fll hfa)
                          clear hfa
                          go_wp2_with fail
                          refine KE.out.mono ?_
                          rintro e w4 ⟨rfl, ⟨v', hb4, hf4⟩, hfr4⟩
                          have H4 := Lib.hid (HP.out.ensN HV.out hb4 hf4 hfr4)
                          have F4 := Lib.hid (hfr.out.step hfr4 (fun b hb h => h ▸ HH.out.xs.2.2.1))
                          clear hb4 hf4 hfr4 KE
                          go_wp2_with fail
                          go_roundw
                          case rel => exact ⟨i2 + 1, by omega, by go_num, by simp, Lib.hid ⟨_, _, by rw [← HST.out]; exact H4.out⟩, F4⟩
                          case measure => simp [intOf]; omega
                        | false =>
                          have hfa : FN[i2]? = some (es) := by rw [HFN.out i2, fixP_at true false ess (i1 + i2) es HES.out, if_neg hj0]; simp [fix]
                          have HST := Lib.hid (mix_set FN ns i2 _ fll hfa)
                          have HSM := Lib.hid (set_same _ i2 es hmx)
                          clear hfa KE
                          go_wp2_with fail
                          go_roundw
                          case rel => exact ⟨i2 + 1, by omega, by go_num, by simp, Lib.hid ⟨vs', us', by rw [← HST.out, HSM.out]; exact HP.out⟩, hfr⟩
                          case measure => simp [intOf]; omega
                    · obtain rfl : i2 = j := by omega
                      have HPN := Lib.hid HP.out
                      have hmxa : mix FN ns i2 = FN := mix_all _ _ _ HFNL.out HH.out.l5
                      rw [hmxa] at HPN
                      clear hps HP hmxa fll gl3
                      have KE := Lib.hid (ens36 _ X rp 0 28 _ _ _ HPN.out.br rfl HPN.out.fr HPN.out.old HPN.out.xs.2.1)
                      go_wp2_with fail
                      refine KE.out.mono ?_
                      rintro e w4 ⟨rfl, ⟨v', hb4, hf4⟩, hfr4⟩
                      have H4 := Lib.hid (HPN.out.ensR hb4 hf4 hfr4)
                      have F4 := Lib.hid (hfr.out.step hfr4 fun b hb h => h ▸ HH.out.xs.2.1)
                      clear hb4 hf4 hfr4 KE q1 ql
                      have cl4 := H4.out.bc.lt
                      have hpart := partAt0 (P := Tryf.prog) H4.out.bc (.inr (by kernel_rfl))
                      go_wp2_with fail
                      refine (base41 _ X c lp rp bb pg ng i1 i2 lns lv _ lt _ _ esl _ _ _ H4.out hn1 hn2 _ x).mono ?_
                      rintro e w5 ⟨rfl, hb5⟩
                      have H5 := Lib.hid (H4.out.below hb5)
                      have F5 := Lib.hid (F4.out.step (Fr.of_below hb5 (fun _ => False)) fun b hb h => h.elim)
                      clear hb5
                      go_wp2_with fail
                      go_end0
                      have h9 := H5.out
                      rw [GFP.out, GFN.out] at h9
                      exact ⟨rfl, ⟨_, _, _, h9⟩, F5.out⟩
            · have g2 : ¬ 0 < m2 := g2
              have hnr : nr = true := by rw [HNR.out, HPP.out]; simp
              subst hnr
              obtain ⟨FP, hFP⟩ : ∃ FP, FP = (fixP true bt ess).take k := ⟨_, rfl⟩
              obtain ⟨FN, hFN⟩ : ∃ FN, FN = (fixP true bt ess).drop k := ⟨_, rfl⟩
              have HFP : Hid (∀ i, i < k → FP[i]? = (fixP true bt ess)[i]?) := Lib.hid (fun i hi => by rw [hFP, List.getElem?_take_of_lt hi])
              have HFN : Hid (∀ i, FN[i]? = (fixP true bt ess)[k + i]?) := Lib.hid (fun i => by rw [hFN, List.getElem?_drop])
              have HFPL : Hid (FP.length = k) := Lib.hid (by rw [hFP, List.length_take, fixP_len, HEL.out]; omega)
              have HFNL : Hid (FN.length = j) := Lib.hid (by rw [hFN, List.length_drop, fixP_len, HEL.out]; omega)
              have GFP := Lib.hid hFP
              have GFN := Lib.hid hFN
              clear hFP hFN
              go_wp2_with fail
              go_loopw [14, 66] (fun f i w3 => ∃ i1 : Nat, i1 ≤ k ∧ i = .int .i64 i1 ∧ f = .bool (decide (i1 = 0)) ∧ Hid (∃ vs', ArgS w3 X c lp rp bb pg ng k j lns lv (.slice ra esr.length rc) lt vs' us esl esr (mix FP ps i1) ns) ∧ Hid (Fr w w3 X)) (fun _ i _ => k - (intOf i).toNat)
              case atStart => exact ⟨0, Nat.zero_le _, rfl, rfl, Lib.hid ⟨vs, by rw [mix_zero]; exact H2.out⟩, Lib.hid (Fr.of_below B2.out _)⟩
              case round =>
                clear q0 ql
                obtain ⟨i1, hi1, rfl, rfl, hps, hfr⟩ := hrel
                obtain ⟨wq, hwq⟩ : ∃ wq, wq = wr := ⟨_, rfl⟩
                subst hwq
                obtain ⟨vs', hps⟩ := hps.out
                have HP := Lib.hid hps
                have q0 := hps.ba.cell 0
                have q1 := hps.ba.cell 1
                simp at q0 q1
                have ql := hps.ba.lt
                have gl3 := hps.bp.lt
                have fll : ps.length = FP.length := by rw [HFPL.out, HH.out.l3]
                by_cases hjt : i1 < k
                · obtain ⟨ln, hln⟩ : ∃ v, lns[i1]? = some v := ⟨lns[i1]'(by rw [HH.out.l1]; exact hjt), by simp⟩
                  obtain ⟨es, hes⟩ : ∃ es, ps[i1]? = some es := ⟨ps[i1]'(by rw [HH.out.l3]; exact hjt), by simp⟩
                  obtain ⟨v, hv⟩ : ∃ v, vs'[i1]? = some v := ⟨vs'[i1]'(by rw [hps.l2]; exact hjt), by simp⟩
                  have HES := Lib.hid (HEP.out i1 es hes)
                  have HLN := Lib.hid hln
                  have HV := Lib.hid hv
                  have hxl : X ln := HH.out.xs.2.2.2 ln (List.mem_of_getElem? hln)
                  have hmx : (mix FP ps i1)[i1]? = some es := by rw [mix_at _ _ _ fll (by rw [HFPL.out]; exact hjt)]; exact hes
                  have y0 : wq.cell? ⟨pg, i1 * 2, none⟩ = some (.iface 26 (.pointer (some ⟨ln, 0, none⟩))) := by rw [hps.bp.cell, List.getElem?_toArray]; exact cellsA_at lns i1 0 ln hln (by omega)
                  have KE := Lib.hid (ens36 wq X ln 0 42 (nullC v) v es (hps.lit i1 ln v hln hv) rfl (hps.fp i1 v es hv hmx) hps.old hxl)
                  clear hps hes hln hv
                  by_cases hj0 : i1 = 0
                  · have hd : decide (i1 = 0) = true := by simpa using hj0
                    rw [hd]
                    have hfa : FP[i1]? = some (ens es) := by rw [HFP.out i1 hjt, fixP_at true bt ess i1 es HES.out, if_pos hj0]; simp [fix]
                    have HST := Lib.hid (mix_set FP ps i1 _ fll hfa)
                    have HJ0 := Lib.hid hj0
                    clear hfa hj0 hd
                    go_wp2_with fail
                    refine (openF35 _ ln).mono ?_
                    rintro e w9 ⟨rfl, rfl⟩
                    go_wp2_with fail
                    refine KE.out.mono ?_
                    rintro e w4 ⟨rfl, ⟨v', hb4, hf4⟩, hfr4⟩
                    have H4 := Lib.hid (HP.out.ensA HLN.out HV.out hb4 hf4 hfr4)
                    have F4 := Lib.hid (hfr.out.step hfr4 (fun b hb h => h ▸ hxl))
                    clear hb4 hf4 hfr4 KE
                    go_wp2_with fail
                    go_roundw
                    case rel => exact ⟨i1 + 1, by omega, by go_num, by simp, Lib.hid ⟨_, by rw [← HST.out]; exact H4.out⟩, F4⟩
                    case measure => simp [intOf]; omega
                  · have hd : decide (i1 = 0) = false := by simpa using hj0
                    rw [hd]
                    cases bt with
                    | true =>
                      have hfa : FP[i1]? = some (ens es) := by rw [HFP.out i1 hjt, fixP_at true true ess i1 es HES.out, if_neg hj0]; simp [fix]
                      have HST := Lib.hid (mix_set FP ps i1 _ fll hfa)
                      clear hfa
                      go_wp2_with fail
                      refine (openF35 _ ln).mono ?_
                      rintro e w9 ⟨rfl, rfl⟩
                      go_wp2_with fail
                      refine KE.out.mono ?_
                      rintro e w4 ⟨rfl, ⟨v', hb4, hf4⟩, hfr4⟩
                      have H4 := Lib.hid (HP.out.ensA HLN.out HV.out hb4 hf4 hfr4)
                      have F4 := Lib.hid (hfr.out.step hfr4 (fun b hb h => h ▸ hxl))
                      clear hb4 hf4 hfr4 KE
                      go_wp2_with fail
                      go_roundw
                      case rel => exact ⟨i1 + 1, by omega, by go_num, by simp, Lib.hid ⟨_, by rw [← HST.out]; exact H4.out⟩, F4⟩
                      case measure => simp [intOf]; omega
                    | false =>
                      have hfa : FP[i1]? = some (es) := by rw [HFP.out i1 hjt, fixP_at true false ess i1 es HES.out, if_neg hj0]; simp [fix]
                      have HST := Lib.hid (mix_set FP ps i1 _ fll hfa)
                      have HSM := Lib.hid (set_same _ i1 es hmx)
                      clear hfa KE
                      go_wp2_with fail
                      go_roundw
                      case rel => exact ⟨i1 + 1, by omega, by go_num, by simp, Lib.hid ⟨vs', by rw [← HST.out, HSM.out]; exact HP.out⟩, hfr⟩
                      case measure => simp [intOf]; omega
                · obtain rfl : i1 = k := by omega
                  have HP0 := Lib.hid HP.out
                  have hmxa : mix FP ps i1 = FP := mix_all _ _ _ HFPL.out HH.out.l3
                  rw [hmxa] at HP0
                  clear hps HP hmxa fll q0 gl3
                  go_wp2_with fail
                  go_loopw [14, 98] (fun f i w3 => ∃ i2 : Nat, i2 ≤ j ∧ i = .int .i64 i2 ∧ f = .bool (decide (i1 + i2 = 0)) ∧ Hid (∃ vs' us', ArgS w3 X c lp rp bb pg ng i1 j lns lv (.slice ra esr.length rc) lt vs' us' esl esr FP (mix FN ns i2)) ∧ Hid (Fr w w3 X)) (fun _ i _ => j - (intOf i).toNat)
                  case atStart => exact ⟨0, Nat.zero_le _, rfl, rfl, Lib.hid ⟨vs', us, by rw [mix_zero]; exact HP0.out⟩, hfr⟩
                  case round =>
                    clear q1 ql hfr
                    obtain ⟨i2, hi2, rfl, rfl, hps, hfr⟩ := hrel
                    obtain ⟨wz, hwz⟩ : ∃ wz, wz = wr := ⟨_, rfl⟩
                    subst hwz
                    obtain ⟨vs', us', hps⟩ := hps.out
                    have HP := Lib.hid hps
                    have q1 := hps.ba.cell 1
                    simp at q1
                    have ql := hps.ba.lt
                    have gl3 := hps.bn.lt
                    have fll : ns.length = FN.length := by rw [HFNL.out, HH.out.l5]
                    by_cases hjt : i2 < j
                    · obtain ⟨q, hq⟩ : ∃ v, us'[i2]? = some v := ⟨us'[i2]'(by rw [hps.l4]; exact hjt), by simp⟩
                      obtain ⟨es, hes⟩ : ∃ es, ns[i2]? = some es := ⟨ns[i2]'(by rw [HH.out.l5]; exact hjt), by simp⟩
                      obtain ⟨v, mn⟩ := q
                      have HES := Lib.hid (HEN.out i2 es hes)
                      have HV := Lib.hid hq
                      have hmx : (mix FN ns i2)[i2]? = some es := by rw [mix_at _ _ _ fll (by rw [HFNL.out]; exact hjt)]; exact hes
                      have KE := Lib.hid (ens36 wz X ng (i2 * 5) 83 (cellsN us').toArray v es hps.bn (by rw [List.getElem?_toArray]; exact cellsN_at us' i2 0 (v, mn) hq (by omega)) (hps.fn i2 (v, mn) es hq hmx) hps.old HH.out.xs.2.2.1)
                      clear hps hes hq
                      by_cases hj0 : i1 + i2 = 0
                      · have hd : decide (i1 + i2 = 0) = true := by simpa using hj0
                        rw [hd]
                        have hfa : FN[i2]? = some (ens es) := by rw [HFN.out i2, fixP_at true bt ess (i1 + i2) es HES.out, if_pos hj0]; simp [fix]
                        have HST := Lib.hid (mix_set FN ns i2 _ fll hfa)
                        have HJ0 := Lib.hid hj0
                        clear hfa hj0 hd
                        go_wp2_with fail
                        refine KE.out.mono ?_
                        rintro e w4 ⟨rfl, ⟨v', hb4, hf4⟩, hfr4⟩
                        have H4 := Lib.hid (HP.out.ensN HV.out hb4 hf4 hfr4)
                        have F4 := Lib.hid (hfr.out.step hfr4 (fun b hb h => h ▸ HH.out.xs.2.2.1))
                        clear hb4 hf4 hfr4 KE
                        go_wp2_with fail
                        go_roundw
                        case rel => exact ⟨i2 + 1, by omega, by go_num, by simp, Lib.hid ⟨_, _, by rw [← HST.out]; exact H4.out⟩, F4⟩
                        case measure => simp [intOf]; omega
                      · have hd : decide (i1 + i2 = 0) = false := by simpa using hj0
                        rw [hd]
                        cases bt with
                        | true =>
                          have hfa : FN[i2]? = some (ens es) := by rw [HFN.out i2, fixP_at true true ess (i1 + i2) es HES.out, if_neg hj0]; simp [fix]
                          have HST := Lib.hid (mix_set FN ns i2 _ fll hfa)
                          clear hfa
                          go_wp2_with fail
                          refine KE.out.mono ?_
                          rintro e w4 ⟨rfl, ⟨v', hb4, hf4⟩, hfr4⟩
                          have H4 := Lib.hid (HP.out.ensN HV.out hb4 hf4 hfr4)
                          have F4 := Lib.hid (hfr.out.step hfr4 (fun b hb h => h ▸ HH.out.xs.2.2.1))
                          clear hb4 hf4 hfr4 KE
                          go_wp2_with fail
                          go_roundw
                          case rel => exact ⟨i2 + 1, by omega, by go_num, by simp, Lib.hid ⟨_, _, by rw [← HST.out]; exact H4.out⟩, F4⟩
                          case measure => simp [intOf]; omega
                        | false =>
                          have hfa : FN[i2]? = some (es) := by rw [HFN.out i2, fixP_at true false ess (i1 + i2) es HES.out, if_neg hj0]; simp [fix]
                          have HST := Lib.hid (mix_set FN ns i2 _ fll hfa)
                          have HSM := Lib.hid (set_same _ i2 es hmx)
                          clear hfa KE
                          go_wp2_with fail
                          go_roundw
                          case rel => exact ⟨i2 + 1, by omega, by go_num, by simp, Lib.hid ⟨vs', us', by rw [← HST.out, HSM.out]; exact HP.out⟩, hfr⟩
                          case measure => simp [intOf]; omega
                    · obtain rfl : i2 = j := by omega
                      have HPN := Lib.hid HP.out
                      have hmxa : mix FN ns i2 = FN := mix_all _ _ _ HFNL.out HH.out.l5
                      rw [hmxa] at HPN
                      clear hps HP hmxa fll gl3
                      have KE := Lib.hid (ens36 _ X rp 0 28 _ _ _ HPN.out.br rfl HPN.out.fr HPN.out.old HPN.out.xs.2.1)
                      go_wp2_with fail
                      refine KE.out.mono ?_
                      rintro e w4 ⟨rfl, ⟨v', hb4, hf4⟩, hfr4⟩
                      have H4 := Lib.hid (HPN.out.ensR hb4 hf4 hfr4)
                      have F4 := Lib.hid (hfr.out.step hfr4 fun b hb h => h ▸ HH.out.xs.2.1)
                      clear hb4 hf4 hfr4 KE q1 ql
                      have cl4 := H4.out.bc.lt
                      have hpart := partAt0 (P := Tryf.prog) H4.out.bc (.inr (by kernel_rfl))
                      go_wp2_with fail
                      refine (base41 _ X c lp rp bb pg ng i1 i2 lns lv _ lt _ _ esl _ _ _ H4.out hn1 hn2 _ x).mono ?_
                      rintro e w5 ⟨rfl, hb5⟩
                      have H5 := Lib.hid (H4.out.below hb5)
                      have F5 := Lib.hid (F4.out.step (Fr.of_below hb5 (fun _ => False)) fun b hb h => h.elim)
                      clear hb5
                      go_wp2_with fail
                      go_end0
                      have h9 := H5.out
                      rw [GFP.out, GFN.out] at h9
                      exact ⟨rfl, ⟨_, _, _, h9⟩, F5.out⟩
end Go.Proofs.YtlaghkppjdphnaaFmt
