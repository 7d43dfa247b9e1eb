/- FnSortImportsLeavesGroupWithRepeatedVariable: the walk. -/
import Derived.Test.YtljfgplccnaboaaFmtLwh
namespace Go.Proofs.YtljfgplccnaboaaFmt
open Go.RowKit Go.Lib
set_option linter.unusedVariables false

set_option maxRecDepth 100000 in
set_option maxHeartbeats 6400000 in
theorem law6 (a0 : Option Addr) (len0 cap0 : Nat) (z0 : List ByteArray) (a1 : Option Addr) (len1 cap1 : Nat) (z1 : List Bool) (w : World) (w0 : IsStrs w a0 len0 cap0 z0) (w1 : IsBools w a1 len1 cap1 z1) :
    Calls Tryf.prog 6 #[.slice a0 len0 cap0, .slice a1 len1 cap1] w fun e w' => e = .returned (.bool true) ∧ Below w.heap.size w w' := by
  have KG := Lib.hid (guard23 w a0 len0 cap0 z0 a1 len1 cap1 w0 (Nat.le_trans w1.2.1 w1.2.2.1))
  have W0 := Lib.hid w0
  have W1 := Lib.hid w1
  have mm0 : len0 ≤ 9223372036854775807 := Nat.le_trans w0.2.1 w0.2.2.1
  have mm1 : len1 ≤ 9223372036854775807 := Nat.le_trans w1.2.1 w1.2.2.1
  clear w0 w1
  go_enter Tryf.func6, Tryf.ntmps6
  go_wp2_with fail
  refine KG.out.mono ?_
  rintro e w' ⟨r, rfl, rfl⟩
  cases r
  · go_wp2_with fail
    go_ret
    exact ⟨rfl, Below.refl _ _⟩
  by_cases t0 : 4096 < len0
  · go_wp2_with fail
    go_ret
    exact ⟨rfl, Below.refl _ _⟩
  by_cases t1 : 4096 < len1
  · go_wp2_with fail
    go_ret
    exact ⟨rfl, Below.refl _ _⟩
  have KB := Lib.hid (bytes8 w a0 len0 cap0 z0 a1 len1 cap1 W0.out (by omega) (by omega))
  go_wp2_with fail
  refine KB.out.mono ?_
  rintro e w' ⟨nn, rfl, rfl⟩
  by_cases t2 : 1048576 < nn
  · go_wp2_with fail
    go_ret
    exact ⟨rfl, Below.refl _ _⟩
  have K9 := Lib.hid (clone9 w a0 len0 cap0 z0 W0.out.1 (by omega) (fun h => by have := W0.out.2.2.2.1 h; have := W0.out.2.1; omega) W0.out.2.2.2.2.2)
  go_wp2_with fail
  refine K9.out.mono ?_
  rintro e w1 ⟨na, nc, rfl, hrn, hb1⟩
  have K10 := Lib.hid (clone10 w1 a1 len1 cap1 z1 W1.out.1 (by omega) (fun h => by have := W1.out.2.2.2.1 h; have := W1.out.2.1; omega) (W1.out.2.2.2.2.bel hb1 rfl))
  have HRN1 := Lib.hid hrn
  have HB1 := Lib.hid hb1
  clear hrn hb1 K9 KB KG
  go_wp2_with fail
  refine K10.out.mono ?_
  rintro e w2 ⟨ba, bc, rfl, hrb, hb2⟩
  have hrn2 := HRN1.out.bel hb2 rfl
  have K11 := Lib.hid (build11 w2 na len0 nc z0 ba len1 bc z1 true W0.out.1 (by omega) W1.out.1 (by omega) hrn2 hrb)
  have HRN2 := Lib.hid hrn2
  have HRB2 := Lib.hid hrb
  have HB2 := Lib.hid (HB1.out.trans (hb2.mono HB1.out.size))
  clear hrn2 hrb hb2 K10 HRN1 HB1
  go_wp2_with fail
  refine K11.out.mono ?_
  rintro e w3 ⟨v, hd, rfl, hch, hho, htl, hb3⟩
  have HB3 := Lib.hid hb3
  rcases Nat.eq_zero_or_pos len0 with hz | hz
  · subst hz
    have hz0 : z0 = [] := List.length_eq_zero_iff.1 W0.out.1
    subst hz0
    obtain ⟨rfl, rfl⟩ : v = nulV w2.heap.size ∧ hd = .pointer none := by
      refine ⟨hch, ?_⟩
      rcases hho with ⟨_, h⟩ | ⟨h, _⟩
      · exact h
      · exact absurd rfl h
    have HNW := Blk.new w3 35 #[nulV w2.heap.size]
    have K22 := Lib.hid (sort22n (w3.alloc (.cells #[nulV w2.heap.size] 35)) w3.heap.size w2.heap.size HNW)
    have HNWH := Lib.hid HNW
    unfold nulV at K22
    clear hch hho htl hb3 HNW K11
    go_wp2_with fail
    refine K22.out.mono ?_
    rintro e w4 ⟨rfl, hb4⟩
    have hfb4 := HNWH.out.under hb4
    have f0 := hfb4.cell 0
    have fl := hfb4.lt
    simp [nulV] at f0
    have K14 := Lib.hid (walk14 w4 (fun _ => False) w2.heap.size 0 [] 29 w2.heap.size rfl (fun _ h => h.elim) rfl (by omega))
    have HB4 := Lib.hid ((HB3.out.alloc HB3.out.size _).trans (hb4.mono (by have := HB3.out.size; simp; omega)))
    clear hb4 hfb4 K22
    go_wp2_with fail
    refine K14.out.mono ?_
    rintro e w5 ⟨gk, ck, gv, cv, rfl, hrk, hrv, hb5⟩
    have b5 := HB4.out.trans (hb5.mono HB4.out.size)
    have HB5 := Lib.hid (HB2.out.trans (b5.mono HB2.out.size))
    clear hrk hrv hb5 b5 K14
    go_wp2_with fail
    refine wp_loop_rounds 1 ?_
    rw [rounds_succ]
    go_wp2_with fail
    go_ret
    exact ⟨rfl, HB5.out⟩
  · have hps : z0 ≠ [] := fun h => by have := W0.out.1; rw [h] at this; simp at this; omega
    obtain ⟨lb, n0, body, ns, hL, hn0, rfl, hH⟩ := chain_head hch hho htl (by rw [W0.out.1]; omega) hps
    have HNW := Blk.new w3 35 #[locV lb]
    have hH2 : ChH (w3.alloc (.cells #[locV lb] 35)) (NewT w2.heap.size w3) w2.heap.size lb n0 body ns none := by
      have f := (Fr.refl w3 (fun _ => False)).alloc (.cells #[locV lb] 35)
      exact ⟨hH.nd.fr f (fun _ _ h => h), hH.ch.fr f (fun _ _ h => h), hH.tl.fr f (fun h => h) (fun _ _ h => h), hH.o0, hH.fk, fun b hb => ⟨Nat.lt_of_lt_of_le (hH.cl b hb).1 f.size, (hH.cl b hb).2⟩, hH.len, hH.vs⟩
    have K22 := Lib.hid (sort22 (w3.alloc (.cells #[locV lb] 35)) (NewT w2.heap.size w3) w3.heap.size w2.heap.size lb n0 body ns none hH2 HNW)
    have HL := Lib.hid hL
    have HN0 := Lib.hid hn0
    unfold locV at K22
    clear hch hho htl hb3 HNW K11 hH hH2 hL hn0
    go_wp2_with fail
    refine K22.out.mono ?_
    rintro e w4 ⟨va, out, f, rfl, hti, hc, hfr, hfb⟩
    obtain ⟨T, vb, rfl⟩ := chain_iface hc
    have f0 := hfb.cell 0
    have fl := hfb.lt
    simp at f0
    have HTI := Lib.hid hti
    have holen : out.length = len0 := by
      have h1 := hti.perm.length_eq
      have h2 := congrArg List.length HL.out
      rw [chainN_len, W0.out.1] at h2
      simp at h1 h2
      omega
    have K14 := Lib.hid (walk14 w4 _ w2.heap.size len0 out T vb hc (fun b hb => hb.1.2) holen (by omega))
    have HF4 := Lib.hid (show Fr w2 w4 (fun b => w2.heap.size ≤ b) from ((Fr.of_below HB3.out _).alloc (.cells #[locV lb] 35)).step hfr (fun b hb hx => by have := HB3.out.size; rcases hx with h | h <;> omega))
    clear hti hc hfr hfb K22
    go_wp2_with fail
    refine K14.out.mono ?_
    rintro e w5 ⟨gk, ck, gv, cv, rfl, hrk, hrv, hb5⟩
    have b5 := (HF4.out.to_below (fun b hb => hb) (Nat.le_refl _)).trans (hb5.mono HF4.out.size)
    have hsame : out.map pvN = (chainN true z1 z0).map pvN := by
      have hv : ∀ n ∈ n0 :: ns, n.var = xS := fun n hn => by
        obtain ⟨i, _, _, h3⟩ := chain_mem (same := true) (bs := z1) (ps := z0) (by rw [HL.out]; exact hn)
        rw [h3]
        rfl
      have := HTI.out.same xS (fun p hp => by cases hp) (hv n0 (by simp)) (fun n hn => hv n (by simp [hn]))
      rw [this, HL.out]
      rfl
    have hpv : ∀ k, k < len0 → ∃ s, z0[k]? = some s ∧ out[k]? = some ⟨(out[k]?.map NE.fod).getD none, s, xS⟩ := by
      intro k hk
      have hk2 : k < z0.length := by rw [W0.out.1]; exact hk
      obtain ⟨x, hx⟩ : ∃ x, out[k]? = some x := ⟨out[k]'(by rw [holen]; exact hk), by simp⟩
      have h1 : ((chainN true z1 z0).map pvN)[k]? = some (pvN x) := by rw [← hsame, List.getElem?_map, hx]; rfl
      obtain ⟨h2, h3⟩ := (chain_pv true z1 z0 k (pvN x)).1 h1
      refine ⟨x.path, h2, ?_⟩
      rw [hx]
      have h4 : x.var = xS := h3
      obtain ⟨f, p, vv⟩ := x
      simp only at h4
      rw [h4]
      rfl
    obtain ⟨kb, koff, hkk, hkl, hkc⟩ := hrk.pos (by simp; omega)
    injection hkk with hkk
    injection hkk with e1 e2
    subst e1 e2
    obtain ⟨vb', voff, hvk, hvl, hvc⟩ := hrv.pos (by simp; omega)
    injection hvk with hvk
    injection hvk with e1 e2
    subst e1 e2
    obtain ⟨pb, poff, rfl, hpb, hpc⟩ := (HRN2.out.bel b5 rfl).pos (by simp [W0.out.1]; omega)
    have HKC := Lib.hid hkc
    have HVC := Lib.hid hvc
    have HPC := Lib.hid hpc
    have HPV := Lib.hid hpv
    have HB5 := Lib.hid (HB2.out.trans (b5.mono HB2.out.size))
    clear hrk hrv hb5 b5 K14 hsame hpv hkc hvc hpc
    go_wp2_with fail
    go_loopw [11] (fun i wr => ∃ k : Nat, k ≤ len0 ∧ i = .int .i64 (k : Int) ∧ Hid (Below w5.heap.size w5 wr)) (fun i _ => len0 - (intOf i).toNat)
    case atStart => exact ⟨0, Nat.zero_le _, rfl, Lib.hid (Below.refl _ _)⟩
    case round =>
      obtain ⟨k, hk, rfl, hbel⟩ := hrel
      by_cases hlt : k < len0
      · obtain ⟨s, hs1, hs2⟩ := HPV.out k hlt
        have c1 : wr.cell? ⟨gk, k, none⟩ = some (.string s) := (hbel.out.cell (p := ⟨gk, k, none⟩) hkl).trans (by have := HKC.out k (.string s) (by rw [List.getElem?_map, hs2]; rfl); rwa [Nat.zero_add] at this)
        have c2 : wr.cell? ⟨gv, k, none⟩ = some (.string ⟨#[120]⟩) := (hbel.out.cell (p := ⟨gv, k, none⟩) hvl).trans (by have := HVC.out k (.string xS) (by rw [List.getElem?_map, hs2]; rfl); rwa [Nat.zero_add] at this)
        have c3 : wr.cell? ⟨pb, poff + k, none⟩ = some (.string s) := (hbel.out.cell (p := ⟨pb, poff + k, none⟩) hpb).trans (HPC.out k (.string s) (by rw [List.getElem?_map, hs1]; rfl))
        have gl1 : gk < wr.heap.size := Nat.lt_of_lt_of_le hkl hbel.out.size
        have gl2 : gv < wr.heap.size := Nat.lt_of_lt_of_le hvl hbel.out.size
        have gl3 : pb < wr.heap.size := Nat.lt_of_lt_of_le hpb hbel.out.size
        clear hs1 hs2
        go_wp2_with fail
        go_quiet (fail)
        go_wp2_with fail
        go_roundw
        case measure => simp [intOf]; omega
        case rel => exact ⟨k + 1, by omega, by go_num, Lib.hid ⟨hbel.out.os, hbel.out.tape, hbel.out.output, hbel.out.size, hbel.out.block⟩⟩
      · go_wp2_with fail
        go_ret
        exact ⟨rfl, HB5.out.trans (hbel.out.mono HB5.out.size)⟩
end Go.Proofs.YtljfgplccnaboaaFmt
