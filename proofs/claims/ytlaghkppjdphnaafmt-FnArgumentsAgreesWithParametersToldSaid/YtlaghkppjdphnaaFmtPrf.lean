/- FixNewlines.Parameters. -/
import Derived.Test.YtlaghkppjdphnaaFmtPrm
import Derived.Test.YtlaghkppjdphnaaFmtPaf
namespace Go.Proofs.YtlaghkppjdphnaaFmt
open Go.RowKit
set_option linter.unusedVariables false

/-- The first k out of L, the rest out of Z. -/
def mix {α : Type} (L Z : List α) (k : Nat) : List α := L.take k ++ Z.drop k
theorem mix_zero {α : Type} (L Z : List α) : mix L Z 0 = Z := by simp [mix]
theorem mix_all {α : Type} (L Z : List α) (k : Nat) (h1 : L.length = k) (h2 : Z.length = k) : mix L Z k = L := by
  unfold mix
  rw [List.take_of_length_le (by omega), List.drop_eq_nil_of_le (by omega), List.append_nil]
theorem mix_len {α : Type} (L Z : List α) (k : Nat) (h : Z.length = L.length) : (mix L Z k).length = L.length := by simp [mix]; omega
theorem mix_at {α : Type} (L Z : List α) (k : Nat) (h : Z.length = L.length) (hk : k < L.length) : (mix L Z k)[k]? = Z[k]? := by
  unfold mix
  rw [List.getElem?_append_right (by simp; omega), List.length_take, Nat.min_eq_left (by omega), Nat.sub_self, List.getElem?_drop, Nat.add_zero]
theorem mix_set {α : Type} (L Z : List α) (k : Nat) (u : α) (h : Z.length = L.length) (hu : L[k]? = some u) : (mix L Z k).set k u = mix L Z (k + 1) := by
  have hk := (List.getElem?_eq_some_iff.1 hu).1
  unfold mix
  rw [List.set_append_right _ _ (by simp; omega), List.length_take, Nat.min_eq_left (by omega), Nat.sub_self, List.take_add_one, hu]
  have hd : Z.drop k = Z[k]'(by omega) :: Z.drop (k + 1) := List.drop_eq_getElem_cons (by omega)
  rw [hd, List.set_cons_zero, List.append_assoc]
  rfl
theorem set_same {α : Type} (l : List α) (k : Nat) (u : α) (h : l[k]? = some u) : l.set k u = l := by
  apply List.ext_getElem?
  intro i
  rw [List.getElem?_set]
  split
  · next hi =>
    subst hi
    split
    · exact h.symm
    · next hlt => rw [List.getElem?_eq_none (by omega)] at h; cases h
  · rfl
def nearA (ess : List (List LE)) (k : Nat) : Bool := ((ess.take k).take 1).any hasL
def betA (ess : List (List LE)) (k : Nat) : Bool := ((ess.take k).drop 1).any hasL
theorem nearA_one (ess : List (List LE)) (es : List LE) (h : ess[0]? = some es) : nearA ess 1 = hasL es := by
  cases ess with
  | nil => simp at h
  | cons x l => simp at h; subst h; simp [nearA]
theorem nearA_succ (ess : List (List LE)) (k : Nat) (hk : 0 < k) : nearA ess (k + 1) = nearA ess k := by
  unfold nearA
  rw [List.take_take, List.take_take]
  congr 2
  omega
theorem betA_one (ess : List (List LE)) : betA ess 1 = false := by
  cases ess <;> simp [betA]
theorem betA_succ (ess : List (List LE)) (k : Nat) (hk : 0 < k) (es : List LE) (h : ess[k]? = some es) : betA ess (k + 1) = (betA ess k || hasL es) := by
  have hl := (List.getElem?_eq_some_iff.1 h).1
  unfold betA
  rw [List.take_add_one, h]
  have : ((ess.take k ++ (some es).toList).drop 1) = (ess.take k).drop 1 ++ [es] := by rw [List.drop_append_of_le_length (by simp; omega)]; rfl
  rw [this, List.any_append]
  simp
/-- What becomes of the names. -/
def fixP (nr bt : Bool) (ess : List (List LE)) : List (List LE) := ess.mapIdx fun i es => fix (if i = 0 then nr else bt) es
theorem fixP_len (nr bt : Bool) (ess : List (List LE)) : (fixP nr bt ess).length = ess.length := by simp [fixP]
theorem fixP_at (nr bt : Bool) (ess : List (List LE)) (k : Nat) (es : List LE) (h : ess[k]? = some es) : (fixP nr bt ess)[k]? = some (fix (if k = 0 then nr else bt) es) := by simp [fixP, h]

theorem any_rest {w : World} {c lp rp pp g n : Nat} {lv rv : Value} {vs : List Value} {esl esr : List LE} {ess : List (List LE)} (h : PrmS w c lp rp pp g n lv rv vs esl esr ess) (ess' : List (List LE)) (he : ess' = ess) : PrmS w c lp rp pp g n lv rv vs esl esr ess' := he ▸ h
def PrmD (w : World) (c lp rp pp g n : Nat) (lv : Value) (esl esr : List LE) (ess : List (List LE)) (e : Ending) (w' : World) : Prop :=
  e = .returned (.tuple #[]) ∧ (∃ rv' vs', PrmS w' c lp rp pp g n lv rv' vs' esl esr ess) ∧ Fr w w' (fun b => b = lp ∨ b = rp ∨ b = pp ∨ b = g)

set_option maxRecDepth 100000 in
set_option maxHeartbeats 6400000 in
theorem prm24 (w : World) (c lp rp pp g n : Nat) (lv rv : Value) (vs : List Value) (esl esr : List LE) (ess : List (List LE)) (h : PrmS w c lp rp pp g n lv rv vs esl esr ess) (hn : n ≤ 16384) (h1 : ∀ es ∈ ess, ∀ e ∈ es, OkL e) (h2 : ∀ e ∈ esr, OkL e) (x : Value) :
    Calls Tryf.prog 24 #[.pointer (some ⟨c, 0, none⟩), .iface 48 (.pointer (some ⟨c, 0, none⟩)), .pointer (some ⟨lp, 0, none⟩), .pointer (some ⟨pp, 0, none⟩), .pointer (some ⟨rp, 0, none⟩), x] w
      (PrmD w c lp rp pp g n lv esl (fix (nearA ess n || hasL esr) esr) (fixP (nearA ess n || hasL esr) (betA ess n) ess)) := by
  unfold PrmD
  have HH := Lib.hid h
  have HO1 := Lib.hid h1
  have HO2 := Lib.hid h2
  have p0 := h.bp.cell 0
  simp at p0
  have pl := h.bp.lt
  have gl := h.bg.lt
  obtain ⟨nr, hnr⟩ : ∃ nr, nr = (nearA ess n || hasL esr) := ⟨_, rfl⟩
  obtain ⟨bt, hbt⟩ : ∃ bt, bt = betA ess n := ⟨_, rfl⟩
  rw [← hnr, ← hbt]
  have HNR := Lib.hid hnr
  have HBT := Lib.hid hbt
  clear h h1 h2 hnr hbt
  go_enter Tryf.func24, Tryf.ntmps24
  go_wp2_with fail
  go_loopw [12, 13, 14, 23] (fun b a f i wr => ∃ k : Nat, k ≤ n ∧ i = .int .i64 k ∧ b = .bool (betA ess k) ∧ a = .bool (nearA ess k) ∧ f = .bool (decide (k = 0)) ∧ Hid (Below w.heap.size w wr)) (fun _ _ _ i _ => n - (intOf i).toNat)
  case atStart => exact ⟨0, Nat.zero_le _, rfl, by simp [betA], by simp [nearA], rfl, Lib.hid (Below.refl _ _)⟩
  case round =>
    clear p0 pl
    obtain ⟨k, hk, rfl, rfl, rfl, rfl, hbel⟩ := hrel
    have HR := Lib.hid (HH.out.below hbel.out)
    have p0 := HR.out.bp.cell 0
    simp at p0
    have pl := HR.out.bp.lt
    have gr := HR.out.bg.lt
    by_cases hlt : k < n
    · obtain ⟨v, hv⟩ : ∃ v, vs[k]? = some v := ⟨vs[k]'(by rw [HH.out.ln]; exact hlt), by simp⟩
      obtain ⟨es, hes⟩ : ∃ es, ess[k]? = some es := ⟨ess[k]'(by rw [HH.out.le]; exact hlt), by simp⟩
      have HES := Lib.hid hes
      have y0 := pcell HR.out.bg hv (j := 0) (by omega)
      have y1 := pcell HR.out.bg hv (j := 1) (by omega)
      have y2 := pcell HR.out.bg hv (j := 2) (by omega)
      have y3 := pcell HR.out.bg hv (j := 3) (by omega)
      have y4 := pcell HR.out.bg hv (j := 4) (by omega)
      have y5 := pcell HR.out.bg hv (j := 5) (by omega)
      have y6 := pcell HR.out.bg hv (j := 6) (by omega)
      have y7 := pcell HR.out.bg hv (j := 7) (by omega)
      have y8 := pcell HR.out.bg hv (j := 8) (by omega)
      have y9 := pcell HR.out.bg hv (j := 9) (by omega)
      have y10 := pcell HR.out.bg hv (j := 10) (by omega)
      obtain ⟨va, vc, rfl, _⟩ := (HR.out.fs k v es hv hes).open
      simp [pcs] at y0 y1 y2 y3 y4 y5 y6 y7 y8 y9 y10
      have KC := Lib.hid (fun o => ((HR.out.fs k _ es hv hes).below ((Below.refl wr.heap.size wr).alloc (Nat.le_refl _) o)).cnt (HO1.out es (List.mem_of_getElem? hes)))
      clear hv hes
      go_wp2_with fail
      refine (KC.out _).mono ?_
      rintro e w2 ⟨m, rfl, hb2, hm, hp⟩
      have B2 := Lib.hid ((hbel.out.alloc hbel.out.size _).trans (hb2.mono (by have := hbel.out.size; simp; omega)))
      clear hb2 KC y0 y1 y2 y3 y4 y5 y6 y7 y8 y9 y10 p0 pl
      by_cases hk0 : k = 0
      · subst hk0
        have hA := Lib.hid (nearA_one ess es HES.out)
        have hB := Lib.hid (betA_one ess)
        rw [show nearA ess 0 = false by simp [nearA], show betA ess 0 = false by simp [betA]]
        by_cases hm0 : 0 < m
        · have hx : hasL es = true := by rw [hp]; simpa using hm0
          rw [hx] at hA
          clear hx hp
          go_wp2_with fail
          go_roundw
          case rel => exact ⟨1, by omega, by go_num, by rw [hB.out], by rw [hA.out], rfl, B2⟩
          case measure => simp [intOf]; omega
        · have hx : hasL es = false := by rw [hp]; simpa using hm0
          rw [hx] at hA
          clear hx hp
          go_wp2_with fail
          go_roundw
          case rel => exact ⟨1, by omega, by go_num, by rw [hB.out], by rw [hA.out], rfl, B2⟩
          case measure => simp [intOf]; omega
      · have hA := Lib.hid (nearA_succ ess k (by omega))
        have hB := Lib.hid (betA_succ ess k (by omega) es HES.out)
        have hd : decide (k = 0) = false := by simpa using hk0
        rw [hd]
        by_cases hm0 : 0 < m
        · have hx : hasL es = true := by rw [hp]; simpa using hm0
          rw [hx, Bool.or_true] at hB
          clear hx hp hd
          go_wp2_with fail
          go_roundw
          case rel => exact ⟨k + 1, by omega, by go_num, by rw [hB.out], by rw [hA.out], by simp, B2⟩
          case measure => simp [intOf]; omega
        · have hx : hasL es = false := by rw [hp]; simpa using hm0
          rw [hx, Bool.or_false] at hB
          clear hx hp hd
          go_wp2_with fail
          go_roundw
          case rel => exact ⟨k + 1, by omega, by go_num, by rw [hB.out], by rw [hA.out], by simp, B2⟩
          case measure => simp [intOf]; omega
    · obtain rfl : k = n := by omega
      have KR := Lib.hid (HR.out.fr.cnt HO2.out)
      have r0 := HR.out.br.cell 0
      simp at r0
      have rl := HR.out.br.lt
      obtain ⟨ra, rc, rfl, _⟩ := HR.out.fr.open
      obtain ⟨na, hna⟩ : ∃ na, na = nearA ess k := ⟨_, rfl⟩
      rw [← hna]
      rw [← hna] at HNR
      rw [← HBT.out]
      clear hna p0 pl
      go_wp2_with fail
      refine KR.out.mono ?_
      rintro e w2 ⟨m2, rfl, hb2, hm2, hp2⟩
      have B2 := Lib.hid (hbel.out.trans (hb2.mono hbel.out.size))
      have H2 := Lib.hid (HH.out.below B2.out)
      have q0 := H2.out.bp.cell 0
      simp at q0
      have ql := H2.out.bp.lt
      have HPP := Lib.hid hp2
      clear hb2 hp2 KR r0 rl HR gr
      cases na
      · by_cases g2 : 0 < m2
        · skip
          have g2 : 0 < m2 := g2
          have hnr : nr = true := by rw [HNR.out, HPP.out]; simpa using g2
          subst hnr
          have HFX := Lib.hid (fixP_len true bt ess)
          go_wp2_with fail
          go_loopw [14, 42] (fun f i w3 => ∃ j : Nat, j ≤ k ∧ i = .int .i64 j ∧ f = .bool (decide (j = 0)) ∧ Hid (∃ vs', PrmS w3 c lp rp pp g k lv (.slice ra esr.length rc) vs' esl esr (mix (fixP true bt ess) ess j)) ∧ Hid (Fr w w3 (fun b => b = lp ∨ b = rp ∨ b = pp ∨ b = g))) (fun _ i _ => k - (intOf i).toNat)
          case atStart => exact ⟨0, Nat.zero_le _, rfl, rfl, Lib.hid ⟨vs, by rw [mix_zero]; exact H2.out⟩, Lib.hid (Fr.of_below B2.out _)⟩
          case round =>
            clear q0 ql
            rename_i w3
            obtain ⟨j, hj, rfl, rfl, hps, hfr⟩ := hrel
            obtain ⟨vs', hps⟩ := hps.out
            have HP := Lib.hid hps
            have q0 := hps.bp.cell 0
            simp at q0
            have ql := hps.bp.lt
            have gl3 := hps.bg.lt
            have fll : ess.length = (fixP true bt ess).length := HFX.out.symm
            by_cases hjt : j < k
            · obtain ⟨es, hes⟩ : ∃ es, ess[j]? = some es := ⟨ess[j]'(by rw [HH.out.le]; exact hjt), by simp⟩
              obtain ⟨v, hv⟩ : ∃ v, vs'[j]? = some v := ⟨vs'[j]'(by rw [hps.ln]; exact hjt), by simp⟩
              have hmx : (mix (fixP true bt ess) ess j)[j]? = some es := by rw [mix_at _ _ _ fll (by rw [HFX.out, HH.out.le]; exact hjt)]; exact hes
              have KE := Lib.hid (ens36 _ _ g (j * 11) 69 (cellsP vs').toArray v es hps.bg (by rw [List.getElem?_toArray]; exact cellsP_at vs' j 0 v hv (by omega)) (hps.fs j v es hv hmx) hps.old (.inr (.inr (.inr rfl))))
              have HV := Lib.hid hv
              clear hv
              by_cases hj0 : j = 0
              · subst hj0
                have hfa : (fixP true bt ess)[0]? = some (ens es) := by rw [fixP_at true bt ess 0 es hes]; simp [fix]
                have HST := Lib.hid (mix_set (fixP true bt ess) ess 0 _ fll hfa)
                clear hps hes hmx hfa fll
                go_wp2_with fail
                refine KE.out.mono ?_
                rintro e w4 ⟨rfl, ⟨v', hb4, hf4⟩, hfr4⟩
                have H4 := Lib.hid (HP.out.ensP HV.out hb4 hf4 hfr4)
                have F4 := Lib.hid (hfr.out.step hfr4 fun b hb h => .inr (.inr (.inr h)))
                clear hb4 hf4 hfr4 KE
                go_wp2_with fail
                go_roundw
                case rel => exact ⟨0 + 1, by omega, by go_num, by simp, Lib.hid ⟨_, by rw [← HST.out]; exact H4.out⟩, F4⟩
                case measure => simp [intOf]; omega
              · have hd : decide (j = 0) = false := by simpa using hj0
                rw [hd]
                cases bt with
                | true =>
                  have hfa : (fixP true true ess)[j]? = some (ens es) := by rw [fixP_at true true ess j es hes]; simp [fix, hj0]
                  have HST := Lib.hid (mix_set (fixP true true ess) ess j _ fll hfa)
                  clear hps hes hmx hfa fll
                  go_wp2_with fail
                  refine KE.out.mono ?_
                  rintro e w4 ⟨rfl, ⟨v', hb4, hf4⟩, hfr4⟩
                  have H4 := Lib.hid (HP.out.ensP HV.out hb4 hf4 hfr4)
                  have F4 := Lib.hid (hfr.out.step hfr4 fun b hb h => .inr (.inr (.inr h)))
                  clear hb4 hf4 hfr4 KE
                  go_wp2_with fail
                  go_roundw
                  case rel => exact ⟨j + 1, by omega, by go_num, by simp, Lib.hid ⟨_, by rw [← HST.out]; exact H4.out⟩, F4⟩
                  case measure => simp [intOf]; omega
                | false =>
                  have hfa : (fixP true false ess)[j]? = some es := by rw [fixP_at true false ess j es hes]; simp [fix, hj0]
                  have HST := Lib.hid (mix_set (fixP true false ess) ess j _ fll hfa)
                  have HSM := Lib.hid (set_same _ j es hmx)
                  clear hps hes hmx hfa fll KE
                  go_wp2_with fail
                  go_roundw
                  case rel => exact ⟨j + 1, by omega, by go_num, by simp, Lib.hid ⟨vs', by rw [← HST.out, HSM.out]; exact HP.out⟩, hfr⟩
                  case measure => simp [intOf]; omega
            · obtain rfl : j = k := by omega
              have HP2 := Lib.hid (any_rest HP.out (fixP true bt ess) (mix_all _ _ _ (by rw [HFX.out]; exact HH.out.le) HH.out.le).symm)
              clear hps HP
              have KE := Lib.hid (ens36 _ _ rp 0 28 _ _ _ HP2.out.br rfl HP2.out.fr HP2.out.old (.inr (.inl rfl)))
              go_wp2_with fail
              refine KE.out.mono ?_
              rintro e w4 ⟨rfl, ⟨v', hb4, hf4⟩, hfr4⟩
              have H4 := Lib.hid (HP2.out.ensR hb4 hf4 hfr4)
              have F4 := Lib.hid (hfr.out.step hfr4 fun b hb h => .inr (.inl h))
              clear hb4 hf4 hfr4 KE
              have cl4 := H4.out.bc.lt
              have hpart := partAt0 (P := Tryf.prog) H4.out.bc (.inr (by kernel_rfl))
              go_wp2_with fail
              refine (base40 _ c lp rp pp g j lv _ _ esl _ _ H4.out hn _ x).mono ?_
              rintro e w5 ⟨rfl, hb5⟩
              have H5 := Lib.hid (H4.out.below hb5)
              have F5 := Lib.hid (F4.out.step (Fr.of_below hb5 (fun _ => False)) fun b hb h => h.elim)
              clear hb5
              go_wp2_with fail
              go_end0
              exact ⟨rfl, ⟨_, _, H5.out⟩, F5.out⟩
        · skip
          have g2 : ¬ 0 < m2 := g2
          have hnr : nr = false := by rw [HNR.out, HPP.out]; simpa using g2
          subst hnr
          have HFX := Lib.hid (fixP_len false bt ess)
          go_wp2_with fail
          go_loopw [14, 42] (fun f i w3 => ∃ j : Nat, j ≤ k ∧ i = .int .i64 j ∧ f = .bool (decide (j = 0)) ∧ Hid (∃ vs', PrmS w3 c lp rp pp g k lv (.slice ra esr.length rc) vs' esl esr (mix (fixP false bt ess) ess j)) ∧ Hid (Fr w w3 (fun b => b = lp ∨ b = rp ∨ b = pp ∨ b = g))) (fun _ i _ => k - (intOf i).toNat)
          case atStart => exact ⟨0, Nat.zero_le _, rfl, rfl, Lib.hid ⟨vs, by rw [mix_zero]; exact H2.out⟩, Lib.hid (Fr.of_below B2.out _)⟩
          case round =>
            clear q0 ql
            rename_i w3
            obtain ⟨j, hj, rfl, rfl, hps, hfr⟩ := hrel
            obtain ⟨vs', hps⟩ := hps.out
            have HP := Lib.hid hps
            have q0 := hps.bp.cell 0
            simp at q0
            have ql := hps.bp.lt
            have gl3 := hps.bg.lt
            have fll : ess.length = (fixP false bt ess).length := HFX.out.symm
            by_cases hjt : j < k
            · obtain ⟨es, hes⟩ : ∃ es, ess[j]? = some es := ⟨ess[j]'(by rw [HH.out.le]; exact hjt), by simp⟩
              obtain ⟨v, hv⟩ : ∃ v, vs'[j]? = some v := ⟨vs'[j]'(by rw [hps.ln]; exact hjt), by simp⟩
              have hmx : (mix (fixP false bt ess) ess j)[j]? = some es := by rw [mix_at _ _ _ fll (by rw [HFX.out, HH.out.le]; exact hjt)]; exact hes
              have KE := Lib.hid (ens36 _ _ g (j * 11) 69 (cellsP vs').toArray v es hps.bg (by rw [List.getElem?_toArray]; exact cellsP_at vs' j 0 v hv (by omega)) (hps.fs j v es hv hmx) hps.old (.inr (.inr (.inr rfl))))
              have HV := Lib.hid hv
              clear hv
              by_cases hj0 : j = 0
              · subst hj0
                have hfa : (fixP false bt ess)[0]? = some es := by rw [fixP_at false bt ess 0 es hes]; simp [fix]
                have HST := Lib.hid (mix_set (fixP false bt ess) ess 0 _ fll hfa)
                have HSM := Lib.hid (set_same _ 0 es hmx)
                clear hps hes hmx hfa fll KE
                go_wp2_with fail
                go_roundw
                case rel => exact ⟨0 + 1, by omega, by go_num, by simp, Lib.hid ⟨vs', by rw [← HST.out, HSM.out]; exact HP.out⟩, hfr⟩
                case measure => simp [intOf]; omega
              · have hd : decide (j = 0) = false := by simpa using hj0
                rw [hd]
                cases bt with
                | true =>
                  have hfa : (fixP false true ess)[j]? = some (ens es) := by rw [fixP_at false true ess j es hes]; simp [fix, hj0]
                  have HST := Lib.hid (mix_set (fixP false true ess) ess j _ fll hfa)
                  clear hps hes hmx hfa fll
                  go_wp2_with fail
                  refine KE.out.mono ?_
                  rintro e w4 ⟨rfl, ⟨v', hb4, hf4⟩, hfr4⟩
                  have H4 := Lib.hid (HP.out.ensP HV.out hb4 hf4 hfr4)
                  have F4 := Lib.hid (hfr.out.step hfr4 fun b hb h => .inr (.inr (.inr h)))
                  clear hb4 hf4 hfr4 KE
                  go_wp2_with fail
                  go_roundw
                  case rel => exact ⟨j + 1, by omega, by go_num, by simp, Lib.hid ⟨_, by rw [← HST.out]; exact H4.out⟩, F4⟩
                  case measure => simp [intOf]; omega
                | false =>
                  have hfa : (fixP false false ess)[j]? = some es := by rw [fixP_at false false ess j es hes]; simp [fix, hj0]
                  have HST := Lib.hid (mix_set (fixP false false ess) ess j _ fll hfa)
                  have HSM := Lib.hid (set_same _ j es hmx)
                  clear hps hes hmx hfa fll KE
                  go_wp2_with fail
                  go_roundw
                  case rel => exact ⟨j + 1, by omega, by go_num, by simp, Lib.hid ⟨vs', by rw [← HST.out, HSM.out]; exact HP.out⟩, hfr⟩
                  case measure => simp [intOf]; omega
            · obtain rfl : j = k := by omega
              have HP2 := Lib.hid (any_rest HP.out (fixP false bt ess) (mix_all _ _ _ (by rw [HFX.out]; exact HH.out.le) HH.out.le).symm)
              clear hps HP
              have H4 := HP2
              have F4 := hfr
              have cl4 := H4.out.bc.lt
              have hpart := partAt0 (P := Tryf.prog) H4.out.bc (.inr (by kernel_rfl))
              go_wp2_with fail
              refine (base40 _ c lp rp pp g j lv _ _ esl _ _ H4.out hn _ x).mono ?_
              rintro e w5 ⟨rfl, hb5⟩
              have H5 := Lib.hid (H4.out.below hb5)
              have F5 := Lib.hid (F4.out.step (Fr.of_below hb5 (fun _ => False)) fun b hb h => h.elim)
              clear hb5
              go_wp2_with fail
              go_end0
              exact ⟨rfl, ⟨_, _, H5.out⟩, F5.out⟩
      · by_cases g2 : 0 < m2
        · skip
          have g2 : 0 < m2 := g2
          have hnr : nr = true := by rw [HNR.out, HPP.out]; simp
          subst hnr
          have HFX := Lib.hid (fixP_len true bt ess)
          go_wp2_with fail
          go_loopw [14, 42] (fun f i w3 => ∃ j : Nat, j ≤ k ∧ i = .int .i64 j ∧ f = .bool (decide (j = 0)) ∧ Hid (∃ vs', PrmS w3 c lp rp pp g k lv (.slice ra esr.length rc) vs' esl esr (mix (fixP true bt ess) ess j)) ∧ Hid (Fr w w3 (fun b => b = lp ∨ b = rp ∨ b = pp ∨ b = g))) (fun _ i _ => k - (intOf i).toNat)
          case atStart => exact ⟨0, Nat.zero_le _, rfl, rfl, Lib.hid ⟨vs, by rw [mix_zero]; exact H2.out⟩, Lib.hid (Fr.of_below B2.out _)⟩
          case round =>
            clear q0 ql
            rename_i w3
            obtain ⟨j, hj, rfl, rfl, hps, hfr⟩ := hrel
            obtain ⟨vs', hps⟩ := hps.out
            have HP := Lib.hid hps
            have q0 := hps.bp.cell 0
            simp at q0
            have ql := hps.bp.lt
            have gl3 := hps.bg.lt
            have fll : ess.length = (fixP true bt ess).length := HFX.out.symm
            by_cases hjt : j < k
            · obtain ⟨es, hes⟩ : ∃ es, ess[j]? = some es := ⟨ess[j]'(by rw [HH.out.le]; exact hjt), by simp⟩
              obtain ⟨v, hv⟩ : ∃ v, vs'[j]? = some v := ⟨vs'[j]'(by rw [hps.ln]; exact hjt), by simp⟩
              have hmx : (mix (fixP true bt ess) ess j)[j]? = some es := by rw [mix_at _ _ _ fll (by rw [HFX.out, HH.out.le]; exact hjt)]; exact hes
              have KE := Lib.hid (ens36 _ _ g (j * 11) 69 (cellsP vs').toArray v es hps.bg (by rw [List.getElem?_toArray]; exact cellsP_at vs' j 0 v hv (by omega)) (hps.fs j v es hv hmx) hps.old (.inr (.inr (.inr rfl))))
              have HV := Lib.hid hv
              clear hv
              by_cases hj0 : j = 0
              · subst hj0
                have hfa : (fixP true bt ess)[0]? = some (ens es) := by rw [fixP_at true bt ess 0 es hes]; simp [fix]
                have HST := Lib.hid (mix_set (fixP true bt ess) ess 0 _ fll hfa)
                clear hps hes hmx hfa fll
                go_wp2_with fail
                refine KE.out.mono ?_
                rintro e w4 ⟨rfl, ⟨v', hb4, hf4⟩, hfr4⟩
                have H4 := Lib.hid (HP.out.ensP HV.out hb4 hf4 hfr4)
                have F4 := Lib.hid (hfr.out.step hfr4 fun b hb h => .inr (.inr (.inr h)))
                clear hb4 hf4 hfr4 KE
                go_wp2_with fail
                go_roundw
                case rel => exact ⟨0 + 1, by omega, by go_num, by simp, Lib.hid ⟨_, by rw [← HST.out]; exact H4.out⟩, F4⟩
                case measure => simp [intOf]; omega
              · have hd : decide (j = 0) = false := by simpa using hj0
                rw [hd]
                cases bt with
                | true =>
                  have hfa : (fixP true true ess)[j]? = some (ens es) := by rw [fixP_at true true ess j es hes]; simp [fix, hj0]
                  have HST := Lib.hid (mix_set (fixP true true ess) ess j _ fll hfa)
                  clear hps hes hmx hfa fll
                  go_wp2_with fail
                  refine KE.out.mono ?_
                  rintro e w4 ⟨rfl, ⟨v', hb4, hf4⟩, hfr4⟩
                  have H4 := Lib.hid (HP.out.ensP HV.out hb4 hf4 hfr4)
                  have F4 := Lib.hid (hfr.out.step hfr4 fun b hb h => .inr (.inr (.inr h)))
                  clear hb4 hf4 hfr4 KE
                  go_wp2_with fail
                  go_roundw
                  case rel => exact ⟨j + 1, by omega, by go_num, by simp, Lib.hid ⟨_, by rw [← HST.out]; exact H4.out⟩, F4⟩
                  case measure => simp [intOf]; omega
                | false =>
                  have hfa : (fixP true false ess)[j]? = some es := by rw [fixP_at true false ess j es hes]; simp [fix, hj0]
                  have HST := Lib.hid (mix_set (fixP true false ess) ess j _ fll hfa)
                  have HSM := Lib.hid (set_same _ j es hmx)
                  clear hps hes hmx hfa fll KE
                  go_wp2_with fail
                  go_roundw
                  case rel => exact ⟨j + 1, by omega, by go_num, by simp, Lib.hid ⟨vs', by rw [← HST.out, HSM.out]; exact HP.out⟩, hfr⟩
                  case measure => simp [intOf]; omega
            · obtain rfl : j = k := by omega
              have HP2 := Lib.hid (any_rest HP.out (fixP true bt ess) (mix_all _ _ _ (by rw [HFX.out]; exact HH.out.le) HH.out.le).symm)
              clear hps HP
              have KE := Lib.hid (ens36 _ _ rp 0 28 _ _ _ HP2.out.br rfl HP2.out.fr HP2.out.old (.inr (.inl rfl)))
              go_wp2_with fail
              refine KE.out.mono ?_
              rintro e w4 ⟨rfl, ⟨v', hb4, hf4⟩, hfr4⟩
              have H4 := Lib.hid (HP2.out.ensR hb4 hf4 hfr4)
              have F4 := Lib.hid (hfr.out.step hfr4 fun b hb h => .inr (.inl h))
              clear hb4 hf4 hfr4 KE
              have cl4 := H4.out.bc.lt
              have hpart := partAt0 (P := Tryf.prog) H4.out.bc (.inr (by kernel_rfl))
              go_wp2_with fail
              refine (base40 _ c lp rp pp g j lv _ _ esl _ _ H4.out hn _ x).mono ?_
              rintro e w5 ⟨rfl, hb5⟩
              have H5 := Lib.hid (H4.out.below hb5)
              have F5 := Lib.hid (F4.out.step (Fr.of_below hb5 (fun _ => False)) fun b hb h => h.elim)
              clear hb5
              go_wp2_with fail
              go_end0
              exact ⟨rfl, ⟨_, _, H5.out⟩, F5.out⟩
        · skip
          have g2 : ¬ 0 < m2 := g2
          have hnr : nr = true := by rw [HNR.out, HPP.out]; simp
          subst hnr
          have HFX := Lib.hid (fixP_len true bt ess)
          go_wp2_with fail
          go_loopw [14, 42] (fun f i w3 => ∃ j : Nat, j ≤ k ∧ i = .int .i64 j ∧ f = .bool (decide (j = 0)) ∧ Hid (∃ vs', PrmS w3 c lp rp pp g k lv (.slice ra esr.length rc) vs' esl esr (mix (fixP true bt ess) ess j)) ∧ Hid (Fr w w3 (fun b => b = lp ∨ b = rp ∨ b = pp ∨ b = g))) (fun _ i _ => k - (intOf i).toNat)
          case atStart => exact ⟨0, Nat.zero_le _, rfl, rfl, Lib.hid ⟨vs, by rw [mix_zero]; exact H2.out⟩, Lib.hid (Fr.of_below B2.out _)⟩
          case round =>
            clear q0 ql
            rename_i w3
            obtain ⟨j, hj, rfl, rfl, hps, hfr⟩ := hrel
            obtain ⟨vs', hps⟩ := hps.out
            have HP := Lib.hid hps
            have q0 := hps.bp.cell 0
            simp at q0
            have ql := hps.bp.lt
            have gl3 := hps.bg.lt
            have fll : ess.length = (fixP true bt ess).length := HFX.out.symm
            by_cases hjt : j < k
            · obtain ⟨es, hes⟩ : ∃ es, ess[j]? = some es := ⟨ess[j]'(by rw [HH.out.le]; exact hjt), by simp⟩
              obtain ⟨v, hv⟩ : ∃ v, vs'[j]? = some v := ⟨vs'[j]'(by rw [hps.ln]; exact hjt), by simp⟩
              have hmx : (mix (fixP true bt ess) ess j)[j]? = some es := by rw [mix_at _ _ _ fll (by rw [HFX.out, HH.out.le]; exact hjt)]; exact hes
              have KE := Lib.hid (ens36 _ _ g (j * 11) 69 (cellsP vs').toArray v es hps.bg (by rw [List.getElem?_toArray]; exact cellsP_at vs' j 0 v hv (by omega)) (hps.fs j v es hv hmx) hps.old (.inr (.inr (.inr rfl))))
              have HV := Lib.hid hv
              clear hv
              by_cases hj0 : j = 0
              · subst hj0
                have hfa : (fixP true bt ess)[0]? = some (ens es) := by rw [fixP_at true bt ess 0 es hes]; simp [fix]
                have HST := Lib.hid (mix_set (fixP true bt ess) ess 0 _ fll hfa)
                clear hps hes hmx hfa fll
                go_wp2_with fail
                refine KE.out.mono ?_
                rintro e w4 ⟨rfl, ⟨v', hb4, hf4⟩, hfr4⟩
                have H4 := Lib.hid (HP.out.ensP HV.out hb4 hf4 hfr4)
                have F4 := Lib.hid (hfr.out.step hfr4 fun b hb h => .inr (.inr (.inr h)))
                clear hb4 hf4 hfr4 KE
                go_wp2_with fail
                go_roundw
                case rel => exact ⟨0 + 1, by omega, by go_num, by simp, Lib.hid ⟨_, by rw [← HST.out]; exact H4.out⟩, F4⟩
                case measure => simp [intOf]; omega
              · have hd : decide (j = 0) = false := by simpa using hj0
                rw [hd]
                cases bt with
                | true =>
                  have hfa : (fixP true true ess)[j]? = some (ens es) := by rw [fixP_at true true ess j es hes]; simp [fix, hj0]
                  have HST := Lib.hid (mix_set (fixP true true ess) ess j _ fll hfa)
                  clear hps hes hmx hfa fll
                  go_wp2_with fail
                  refine KE.out.mono ?_
                  rintro e w4 ⟨rfl, ⟨v', hb4, hf4⟩, hfr4⟩
                  have H4 := Lib.hid (HP.out.ensP HV.out hb4 hf4 hfr4)
                  have F4 := Lib.hid (hfr.out.step hfr4 fun b hb h => .inr (.inr (.inr h)))
                  clear hb4 hf4 hfr4 KE
                  go_wp2_with fail
                  go_roundw
                  case rel => exact ⟨j + 1, by omega, by go_num, by simp, Lib.hid ⟨_, by rw [← HST.out]; exact H4.out⟩, F4⟩
                  case measure => simp [intOf]; omega
                | false =>
                  have hfa : (fixP true false ess)[j]? = some es := by rw [fixP_at true false ess j es hes]; simp [fix, hj0]
                  have HST := Lib.hid (mix_set (fixP true false ess) ess j _ fll hfa)
                  have HSM := Lib.hid (set_same _ j es hmx)
                  clear hps hes hmx hfa fll KE
                  go_wp2_with fail
                  go_roundw
                  case rel => exact ⟨j + 1, by omega, by go_num, by simp, Lib.hid ⟨vs', by rw [← HST.out, HSM.out]; exact HP.out⟩, hfr⟩
                  case measure => simp [intOf]; omega
            · obtain rfl : j = k := by omega
              have HP2 := Lib.hid (any_rest HP.out (fixP true bt ess) (mix_all _ _ _ (by rw [HFX.out]; exact HH.out.le) HH.out.le).symm)
              clear hps HP
              have KE := Lib.hid (ens36 _ _ rp 0 28 _ _ _ HP2.out.br rfl HP2.out.fr HP2.out.old (.inr (.inl rfl)))
              go_wp2_with fail
              refine KE.out.mono ?_
              rintro e w4 ⟨rfl, ⟨v', hb4, hf4⟩, hfr4⟩
              have H4 := Lib.hid (HP2.out.ensR hb4 hf4 hfr4)
              have F4 := Lib.hid (hfr.out.step hfr4 fun b hb h => .inr (.inl h))
              clear hb4 hf4 hfr4 KE
              have cl4 := H4.out.bc.lt
              have hpart := partAt0 (P := Tryf.prog) H4.out.bc (.inr (by kernel_rfl))
              go_wp2_with fail
              refine (base40 _ c lp rp pp g j lv _ _ esl _ _ H4.out hn _ x).mono ?_
              rintro e w5 ⟨rfl, hb5⟩
              have H5 := Lib.hid (H4.out.below hb5)
              have F5 := Lib.hid (F4.out.step (Fr.of_below hb5 (fun _ => False)) fun b hb h => h.elim)
              clear hb5
              go_wp2_with fail
              go_end0
              exact ⟨rfl, ⟨_, _, H5.out⟩, F5.out⟩
end Go.Proofs.YtlaghkppjdphnaaFmt
