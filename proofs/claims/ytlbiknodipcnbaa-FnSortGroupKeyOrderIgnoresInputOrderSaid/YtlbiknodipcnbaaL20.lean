/- The walk of the law that sortGroup sorts by key unless variables repeat. -/
import Derived.Test.YtlbiknodipcnbaaRun
namespace Go.Proofs.Ytlbiknodipcnbaa
open Go.RowKit
set_option linter.unusedVariables false

theorem isPs_blk {w : World} {g n : Nat} {R ps : List PE} (h : Blk w g 28 (cellsP R).toArray) (hp : R.Perm ps) (hl : ps.length = n) (hn : n ≤ 65536) (hs : ∀ z ∈ ps, z.k.size ≤ maxLen ∧ z.v.size ≤ maxLen) : IsPs w (some ⟨g, 0, none⟩) n n R :=
  ⟨by rw [hp.length_eq, hl], Nat.le_refl _, by unfold maxLen; omega, (fun h => by cases h), (fun z hz => hs z (hp.mem_iff.1 hz)), (by have := h.rd w.heap.size h.lt; simpa [cellsP] using this)⟩
theorem sorted_eq {R1 R2 ps : List PE} (h1 : R1.Perm ps) (h2 : R2.Perm ps) (s1 : R1.Pairwise (fun p q => leP p q = true)) (s2 : R2.Pairwise (fun p q => leP p q = true)) : R1 = R2 :=
  List.Perm.eq_of_pairwise (fun a b _ _ h1 h2 => leP_antisymm h1 h2) s1 s2 (h1.trans h2.symm)

set_option maxRecDepth 100000 in
set_option maxHeartbeats 6400000 in
theorem law20 (a : Option Addr) (n c : Nat) (ps : List PE) (w : World) (h : IsPs w a n c ps) :
    Calls Try.prog 3 #[.slice a n c] w fun e w' => e = .returned (.bool true) ∧ Below w.heap.size w w' := by
  have GG := Lib.hid (guard5 w a n c ps h)
  have H := Lib.hid h
  clear h
  unfold SmallB at GG
  go_enter Try.func3, Try.ntmps3
  go_wp2_with fail
  refine GG.out.mono ?_
  rintro e w1 ⟨r, rfl, rfl, hsm⟩
  have HSM := Lib.hid hsm
  clear hsm GG
  cases r
  · go_wp2_with fail
    go_ret
    exact ⟨rfl, Below.refl _ _⟩
  have KB := Lib.hid (bytes6 w a n c ps H.out (HSM.out rfl))
  unfold BytesN at KB
  go_wp2_with fail
  refine KB.out.mono ?_
  rintro e w2 ⟨m, rfl, hb2, hm1, hm2⟩
  have B2 := Lib.hid hb2
  clear hb2 KB HSM
  by_cases hm : 1048576 < m
  · go_wp2_with fail
    go_ret
    exact ⟨rfl, B2.out⟩
  have hn : n ≤ 32768 := by have := hm2 (by omega); omega
  clear hm1 hm2
  have KR := Lib.hid (run7 w2 a n c ps (H.out.below B2.out) hn)
  unfold RunR at KR
  go_wp2_with fail
  refine KR.out.mono ?_
  rintro e w3 ⟨G, g, rfl, hG, hG1, hG2, hg, hb3⟩
  have B3 := Lib.hid (B2.out.trans (hb3.mono B2.out.size))
  have HG := Lib.hid hG
  have HG1 := Lib.hid hG1
  have HG2 := Lib.hid hG2
  have gl := hG.lt
  clear hG hG1 hG2 hb3 KR B2
  have KV := Lib.hid (rep8 w3 a n c ps (H.out.below B3.out) hn)
  unfold RepB at KV
  go_wp2_with fail
  refine KV.out.mono ?_
  rintro e w4 ⟨r, rfl, hb4, hr⟩
  have B4 := Lib.hid (B3.out.trans (hb4.mono B3.out.size))
  have HB := Lib.hid (HG.out.under hb4)
  have HR := Lib.hid hr
  have gl4 := HB.out.lt
  clear hb4 hr KV B3 HG
  cases r
  · have hnd := HR.out.2 rfl
    obtain ⟨hp, hso⟩ := HG1.out hnd
    have HP := Lib.hid hp
    have HSO := Lib.hid hso
    have hGl : G.length = n := by rw [hp.length_eq, H.out.1]
    have HGL := Lib.hid hGl
    clear hnd hp hso hGl HG1 HG2 HR
    go_wp2_with fail
    go_loopw [4] (fun i wr => ∃ q : Nat, 1 ≤ q ∧ (q ≤ n ∨ q = 1) ∧ i = .int .i64 q ∧ Hid (Below w4.heap.size w4 wr)) (fun i _ => n - (intOf i).toNat)
    case atStart => exact ⟨1, Nat.le_refl _, .inr rfl, rfl, Lib.hid (Below.refl _ _)⟩
    case round =>
      obtain ⟨q, hq1, hqk, rfl, hbel⟩ := hrel
      by_cases hlt : q < n
      · obtain ⟨t, rfl⟩ : ∃ t, q = t + 1 := ⟨q - 1, by omega⟩
        obtain ⟨x, hx⟩ : ∃ x, G[t]? = some x := ⟨G[t]'(by rw [HGL.out]; omega), by simp⟩
        obtain ⟨y, hy⟩ : ∃ y, G[t + 1]? = some y := ⟨G[t + 1]'(by rw [HGL.out]; omega), by simp⟩
        have hBr := HB.out.under hbel.out
        have y0 := hBr.cell (t * 2)
        have y1 := hBr.cell ((t + 1) * 2)
        rw [List.getElem?_toArray, ← Nat.add_zero (t * 2), cellsP_at G t 0 x hx (by omega), Nat.add_zero] at y0
        rw [List.getElem?_toArray, ← Nat.add_zero ((t + 1) * 2), cellsP_at G (t + 1) 0 y hy (by omega), Nat.add_zero] at y1
        simp [PE.cells] at y0 y1
        have yl := hBr.lt
        have hlts : Op.bytesLess y.k.toList x.k.toList = false := by
          obtain ⟨h1, e1⟩ := List.getElem?_eq_some_iff.1 hx
          obtain ⟨h2, e2⟩ := List.getElem?_eq_some_iff.1 hy
          have := List.pairwise_iff_getElem.1 HSO.out t (t + 1) h1 h2 (by omega)
          rw [e1, e2] at this
          exact this
        clear hx hy hBr
        go_wp2_with fail
        go_quiet (fail)
        have BN := Lib.hid (bel_drewN hbel.out nq)
        go_wp2_with fail
        go_roundw
        case rel => exact ⟨t + 1 + 1, by omega, by omega, by go_num, BN⟩
        case measure => simp [intOf]; omega
      · have hkq : ¬ (q : Int) < (n : Int) := by omega
        have B5 := Lib.hid (B4.out.trans (hbel.out.mono B4.out.size))
        have KS := Lib.hid (sort10 n wr _ n G (isPs_blk (HB.out.under hbel.out) HP.out H.out.1 (by omega) H.out.2.2.2.2.1) (by omega))
        clear hbel
        go_wp2_with fail
        refine KS.out.mono ?_
        rintro e w6 ⟨R1, g1, rfl, hR1, hp1, hs1, hg1, hb6⟩
        have B6 := Lib.hid (B5.out.trans (hb6.mono B5.out.size))
        have HR1 := Lib.hid hR1
        have HP1 := Lib.hid hp1
        have HS1 := Lib.hid hs1
        clear hR1 hp1 hs1 hb6 KS B5
        have KS := Lib.hid (sort10 n w6 a c ps (H.out.below B6.out) (by omega))
        go_wp2_with fail
        refine KS.out.mono ?_
        rintro e w7 ⟨R2, g2, rfl, hR2, hp2, hs2, hg2, hb7⟩
        have B7 := Lib.hid (B6.out.trans (hb7.mono B6.out.size))
        have HQ1 := Lib.hid (HR1.out.under hb7)
        have hee := sorted_eq (HP1.out.trans HP.out) hp2 HS1.out hs2
        subst hee
        have HR2 := Lib.hid hR2
        clear hs2 hb7 KS B6 HR1
        have KE := Lib.hid (same9 w7 _ _ n n n R1 (isPs_blk HQ1.out hp2 H.out.1 (by omega) H.out.2.2.2.2.1) (isPs_blk HR2.out hp2 H.out.1 (by omega) H.out.2.2.2.2.1))
        unfold Yes at KE
        clear hR2 hp2
        go_wp2_with fail
        refine KE.out.mono ?_
        rintro e w8 ⟨rfl, hb8⟩
        have B8 := Lib.hid (B7.out.trans (hb8.mono B7.out.size))
        clear hb8
        go_wp2_with fail
        go_ret
        exact ⟨rfl, B8.out⟩
  · have hnd : ¬ (ps.map PE.v).Nodup := fun h => by have := HR.out.1 h; cases this
    have hGe := HG2.out hnd
    subst hGe
    have KE := Lib.hid (same9 w4 _ a n n c G (isPs_blk HB.out (List.Perm.refl _) H.out.1 (by omega) H.out.2.2.2.2.1) (H.out.below B4.out))
    unfold Yes at KE
    clear hnd
    go_wp2_with fail
    refine KE.out.mono ?_
    rintro e w8 ⟨rfl, hb8⟩
    have B8 := Lib.hid (B4.out.trans (hb8.mono B4.out.size))
    clear hb8
    go_wp2_with fail
    go_ret
    exact ⟨rfl, B8.out⟩
end Go.Proofs.Ytlbiknodipcnbaa
