/- The walk of the law that the order of keys does not hang on the order of the input. -/
import Derived.Test.YtlbiknodipcnbaaL20
namespace Go.Proofs.Ytlbiknodipcnbaa
open Go.RowKit
set_option linter.unusedVariables false

theorem keys_eq {F B ps : List PE} (h1 : F.Perm ps) (h2 : B.Perm ps) (s1 : F.Pairwise (fun x y => ltS y.k x.k = false)) (s2 : B.Pairwise (fun x y => ltS y.k x.k = false)) : F.map PE.k = B.map PE.k :=
  List.Perm.eq_of_pairwise (le := fun x y => ltS y x = false) (fun a b _ _ h1 h2 => ltS_tri h2 h1) (List.pairwise_map.2 s1) (List.pairwise_map.2 s2) ((h1.trans h2.symm).map PE.k)
theorem key_inj {ps : List PE} (h : (ps.map PE.k).Nodup) {x y : PE} (hx : x ∈ ps) (hy : y ∈ ps) (e : x.k = y.k) : x = y := by
  obtain ⟨i, hi⟩ := List.getElem?_of_mem hx
  obtain ⟨j, hj⟩ := List.getElem?_of_mem hy
  obtain ⟨h1, e1⟩ := List.getElem?_eq_some_iff.1 hi
  obtain ⟨h2, e2⟩ := List.getElem?_eq_some_iff.1 hj
  have hp := List.pairwise_iff_getElem.1 h
  rcases Nat.lt_trichotomy i j with h3 | h3 | h3
  · have := hp i j (by simpa using h1) (by simpa using h2) h3
    simp only [List.getElem_map] at this
    rw [e1, e2] at this
    exact absurd e this
  · subst h3
    rw [hi] at hj
    exact Option.some.inj hj
  · have := hp j i (by simpa using h2) (by simpa using h1) h3
    simp only [List.getElem_map] at this
    rw [e1, e2] at this
    exact absurd e.symm this
theorem all_eq {F B ps : List PE} (hk : (ps.map PE.k).Nodup) (h1 : F.Perm ps) (h2 : B.Perm ps) (s1 : F.Pairwise (fun x y => ltS y.k x.k = false)) (s2 : B.Pairwise (fun x y => ltS y.k x.k = false)) : F = B :=
  List.Perm.eq_of_pairwise (le := fun x y : PE => ltS y.k x.k = false) (fun a b ha hb h3 h4 => key_inj hk (h1.mem_iff.1 ha) (h2.mem_iff.1 hb) (ltS_tri h4 h3)) s1 s2 (h1.trans h2.symm)

set_option maxRecDepth 100000 in
set_option maxHeartbeats 6400000 in
theorem law37 (a : Option Addr) (n c : Nat) (ps : List PE) (w : World) (h : IsPs w a n c ps) :
    Calls Try.prog 4 #[.slice a n c] w fun e w' => e = .returned (.bool true) ∧ Below w.heap.size w w' := by
  have GG := Lib.hid (guard11 w a n c ps h)
  have H := Lib.hid h
  clear h
  unfold SmallB at GG
  go_enter Try.func4, Try.ntmps4
  go_wp2_with fail
  refine GG.out.mono ?_
  rintro e w1 ⟨r, rfl, rfl, hsm⟩
  have HSM := Lib.hid hsm
  clear hsm GG
  cases r
  · go_wp2_with fail
    go_ret
    exact ⟨rfl, Below.refl _ _⟩
  have KB := Lib.hid (bytes6 w a n c ps H.out (HSM.out rfl))
  unfold BytesN at KB
  go_wp2_with fail
  refine KB.out.mono ?_
  rintro e w2 ⟨m, rfl, hb2, hm1, hm2⟩
  have B2 := Lib.hid hb2
  clear hb2 KB HSM
  by_cases hm : 1048576 < m
  · go_wp2_with fail
    go_ret
    exact ⟨rfl, B2.out⟩
  have hn : n ≤ 32768 := by have := hm2 (by omega); omega
  clear hm1 hm2
  have KV := Lib.hid (rep8 w2 a n c ps (H.out.below B2.out) hn)
  unfold RepB at KV
  go_wp2_with fail
  refine KV.out.mono ?_
  rintro e w3 ⟨r, rfl, hb3, hr⟩
  have B3 := Lib.hid (B2.out.trans (hb3.mono B2.out.size))
  have HR := Lib.hid hr
  clear hb3 hr KV B2
  cases r
  rotate_left
  · go_wp2_with fail
    go_ret
    exact ⟨rfl, B3.out⟩
  have HND := Lib.hid (HR.out.2 rfl)
  have hmk : ∀ W, (Instr.makeSlice 22 (.int .i64 n) (.int .i64 n)).run Try.prog W = .ok (.slice (some ⟨W.heap.size, 0, none⟩) n n) (W.alloc (.cells (rowsP PE.cells zP [] n).flatten.toArray 28)) := by
    obtain ⟨i0, hi, hz0, hz1, hz2⟩ := infP_parts
    intro W
    have := run_make_n (P := Try.prog) 22 28 i0 _ Try.underlying22 hi hz0 .i64 .i64 n n (Nat.le_refl _) (by rw [hz2]; omega) (by omega) W
    rw [hz1, show (Value.agg #[.string ⟨#[]⟩, .string ⟨#[]⟩]).cells = zP.toArray by simp [Value.cells, zP], made_rowsP PE.cells zP 2 n rfl (by decide)] at this
    exact this
  generalize hC1 : (rowsP PE.cells zP [] n).flatten.toArray = C1 at hmk
  have HC1 := Lib.hid hC1
  clear hC1 HR
  go_wp2_with fail
  go_loopw [4] (fun i wr => ∃ k : Nat, k ≤ n ∧ i = .int .i64 k ∧ Hid (Blk wr w3.heap.size 28 (rowsP PE.cells zP (ps.reverse.take k) n).flatten.toArray) ∧ Hid (Below w3.heap.size w3 wr)) (fun i _ => n - (intOf i).toNat)
  case atStart => exact ⟨0, Nat.zero_le _, rfl, Lib.hid (by rw [List.take_zero, HC1.out]; exact Blk.new w3 28 C1), Lib.hid ((Below.refl _ _).alloc (Nat.le_refl _) _)⟩
  case round =>
    clear hmk
    obtain ⟨k, hk, rfl, hblk, hbel⟩ := hrel
    have BR := Lib.hid (B3.out.trans (hbel.out.mono B3.out.size))
    by_cases hlt : k < n
    · obtain ⟨t, ht⟩ : ∃ t, t = n - 1 - k := ⟨_, rfl⟩
      have htn : t < n := by omega
      have hidx : (n : Int) - 1 - (k : Int) = (t : Int) := by omega
      obtain ⟨p, hp⟩ : ∃ p, ps[t]? = some p := ⟨ps[t]'(by rw [H.out.1]; exact htn), by simp⟩
      have hrp : ps.reverse[k]? = some p := by rw [List.getElem?_reverse (by rw [H.out.1]; exact hlt), H.out.1, ← ht]; exact hp
      clear ht
      obtain ⟨b, off, ha, hb, x0, x1⟩ := IsPs.at (H.out.2.2.2.2.2.below BR.out) hp
      subst ha
      have hbw : b < wr.heap.size := Nat.lt_of_lt_of_le hb BR.out.size
      have hlk : (ps.reverse.take k).length = k := by rw [List.length_take, List.length_reverse, H.out.1]; omega
      have HTK : Hid (ps.reverse.take (k + 1) = ps.reverse.take k ++ [p]) := Lib.hid (by rw [List.take_add_one, hrp]; rfl)
      obtain ⟨g0, g1, f0, f1⟩ := row2 hblk.out hlk hlt
      have gl := hblk.out.lt
      have HS := Lib.hid (row2_set hblk.out hlk hlt (.string p.k) (.string p.v) p rfl)
      rw [← HTK.out] at HS
      have HB := Lib.hid ((hbel.out.setCell (p := ⟨w3.heap.size, k * 2, none⟩) (Nat.le_refl _) (.string p.k)).setCell (p := ⟨w3.heap.size, k * 2 + 1, none⟩) (Nat.le_refl _) (.string p.v))
      clear hp hrp hlk hblk hbel HTK BR
      go_wp2_with fail
      go_roundw
      case rel => exact ⟨k + 1, by omega, by go_num, HS, HB⟩
      case measure => simp [intOf]; omega
    · obtain rfl : k = n := by omega
      have hfull := hblk.out
      have hrl : ps.reverse.length = k := by rw [List.length_reverse, H.out.1]
      rw [List.take_of_length_le (by omega), rowsP_full _ _ _ _ hrl] at hfull
      have HV := Lib.hid (isPs_blk hfull (List.reverse_perm ps) H.out.1 (by omega) H.out.2.2.2.2.1)
      have hgv := hfull.lt
      have KR := Lib.hid (run7 wr a k c ps (H.out.below BR.out) hn)
      unfold RunR at KR
      clear hfull hblk hrl
      go_wp2_with fail
      refine KR.out.mono ?_
      rintro e w5 ⟨F, gf, rfl, hF, hF1, hF2, hgf, hb5⟩
      have B5 := Lib.hid (BR.out.trans (hb5.mono BR.out.size))
      have HF := Lib.hid hF
      have HF1 := Lib.hid (hF1 HND.out)
      have HV5 := Lib.hid (HV.out.below hb5)
      have hgv5 := Nat.lt_of_lt_of_le hgv hb5.size
      clear hF hF1 hF2 hb5 KR HV BR hbel
      have KR := Lib.hid (run7 w5 _ k k ps.reverse HV5.out hn)
      unfold RunR at KR
      go_wp2_with fail
      refine KR.out.mono ?_
      rintro e w6 ⟨B, gb, rfl, hB, hB1, hB2, hgb, hb6⟩
      have B6 := Lib.hid (B5.out.trans (hb6.mono B5.out.size))
      have hrv : (ps.reverse.map PE.v).Nodup := (((List.reverse_perm ps).map PE.v).nodup_iff).2 HND.out
      obtain ⟨hBp, hBs⟩ := hB1 hrv
      have HF6 := Lib.hid (HF.out.under hb6)
      have HB := Lib.hid hB
      have HBP := Lib.hid (hBp.trans (List.reverse_perm ps))
      have HBS := Lib.hid hBs
      have hFl : F.length = k := by rw [HF1.out.1.length_eq, H.out.1]
      have hBl : B.length = k := by rw [hBp.length_eq, List.length_reverse, H.out.1]
      have HFL := Lib.hid hFl
      have HBLn := Lib.hid hBl
      clear hB hB1 hB2 hb6 KR HF hrv hBp hBs hFl hBl HV5 B5
      have KK := Lib.hid (rep12 w6 a k c ps (H.out.below B6.out) hn)
      unfold RepB at KK
      go_wp2_with fail
      refine KK.out.mono ?_
      rintro e w7 ⟨r, rfl, hb7, hr⟩
      have B7 := Lib.hid (B6.out.trans (hb7.mono B6.out.size))
      have HF7 := Lib.hid (HF6.out.under hb7)
      have HB7 := Lib.hid (HB.out.under hb7)
      have HR := Lib.hid hr
      have HKE := Lib.hid (keys_eq HF1.out.1 HBP.out HF1.out.2 HBS.out)
      clear hb7 hr KK B6 HF6 HB
      cases r
      all_goals
        go_wp2_with fail
        go_loopw [8] (fun i wr => ∃ q : Nat, q ≤ k ∧ i = .int .i64 q ∧ Hid (Below w7.heap.size w7 wr)) (fun i _ => k - (intOf i).toNat)
        case atStart => exact ⟨0, Nat.zero_le _, rfl, Lib.hid (Below.refl _ _)⟩
        case round =>
          rename_i wx
          obtain ⟨q, hq, rfl, hbel⟩ := hrel
          have BE := Lib.hid (B7.out.trans (hbel.out.mono B7.out.size))
          by_cases hlt2 : q < k
          · obtain ⟨x, hx⟩ : ∃ x, F[q]? = some x := ⟨F[q]'(by rw [HFL.out]; omega), by simp⟩
            obtain ⟨y, hy⟩ : ∃ y, B[q]? = some y := ⟨B[q]'(by rw [HBLn.out]; omega), by simp⟩
            have hxy : x.k = y.k := by
              have h9 := congrArg (fun l => l[q]?) HKE.out
              simp only [List.getElem?_map, hx, hy, Option.map_some] at h9
              exact Option.some.inj h9
            have hxv : (ps.map PE.k).Nodup → x.v = y.v := fun hk => by
              have h9 := all_eq hk HF1.out.1 HBP.out HF1.out.2 HBS.out
              rw [h9, hy] at hx
              rw [Option.some.inj hx]
            have hF8 := HF7.out.under hbel.out
            have hB8 := HB7.out.under hbel.out
            have y0 := hF8.cell (q * 2)
            have y1 := hF8.cell (q * 2 + 1)
            have z0 := hB8.cell (q * 2)
            have z1 := hB8.cell (q * 2 + 1)
            rw [List.getElem?_toArray, ← Nat.add_zero (q * 2), cellsP_at F q 0 x hx (by omega), Nat.add_zero] at y0
            rw [List.getElem?_toArray, cellsP_at F q 1 x hx (by omega)] at y1
            rw [List.getElem?_toArray, ← Nat.add_zero (q * 2), cellsP_at B q 0 y hy (by omega), Nat.add_zero] at z0
            rw [List.getElem?_toArray, cellsP_at B q 1 y hy (by omega)] at z1
            simp [PE.cells] at y0 y1 z0 z1
            have yl := hF8.lt
            have zl := hB8.lt
            rw [← hxy] at z0
            have HXV := Lib.hid hxv
            clear hx hy hxy hF8 hB8 hxv
            go_wp2_with fail
            go_quiet (fail)
            obtain ⟨W, hW⟩ : ∃ W, W = wr.drewN nq := ⟨_, rfl⟩
            have BW := Lib.hid (show Below w7.heap.size w7 W by rw [hW]; exact bel_drewN hbel.out nq)
            have y0' : W.cell? ⟨gf, q * 2, none⟩ = some (.string x.k) := by rw [hW]; exact y0
            have y1' : W.cell? ⟨gf, q * 2 + 1, none⟩ = some (.string x.v) := by rw [hW]; exact y1
            have z0' : W.cell? ⟨gb, q * 2, none⟩ = some (.string x.k) := by rw [hW]; exact z0
            have z1' : W.cell? ⟨gb, q * 2 + 1, none⟩ = some (.string y.v) := by rw [hW]; exact z1
            have yl' : gf < W.heap.size := by rw [hW]; exact yl
            have zl' : gb < W.heap.size := by rw [hW]; exact zl
            rw [← hW]
            clear hW y0 y1 z0 z1 yl zl
            first
              | (have hkd := HR.out.2 (by trivial)
                 rw [← HXV.out hkd] at z1'
                 clear hkd
                 go_wp2_with fail
                 go_quiet (fail)
                 have BN := Lib.hid (bel_drewN BW.out nq)
                 go_wp2_with fail)
              | (go_wp2_with fail
                 go_quiet (fail)
                 have BN := Lib.hid (bel_drewN BW.out nq)
                 go_wp2_with fail)
            go_roundw
            case rel => exact ⟨q + 1, by omega, by go_num, BN⟩
            case measure => simp [intOf]; omega
          · obtain rfl : q = k := by omega
            go_wp2_with fail
            go_ret
            exact ⟨rfl, BE.out⟩
end Go.Proofs.Ytlbiknodipcnbaa
