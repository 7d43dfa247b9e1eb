/- The walk of the law that a second pass over parameters changes nothing. -/
import Derived.Test.YtlaghkppjdphnaaFmtL42
import Derived.Test.YtlaghkppjdphnaaFmtCpy
namespace Go.Proofs.YtlaghkppjdphnaaFmt
open Go.RowKit
set_option linter.unusedVariables false

theorem near_fix (ess : List (List LE)) (esr : List LE) (n : Nat) (nr bt : Bool) (hnr : nr = (nearA ess n || hasL esr)) (h : nr = false) : (nearA (fixP nr bt ess) n || hasL (fix nr esr)) = false := by
  subst h
  obtain ⟨h1, h2⟩ := Bool.or_eq_false_iff.1 hnr.symm
  have h3 : hasL (fix false esr) = false := by simpa [fix] using h2
  rw [h3, Bool.or_false]
  rcases Nat.eq_zero_or_pos n with h0 | h0
  · subst h0; simp [nearA]
  · cases he : ess[0]? with
    | none =>
      have : ess = [] := List.length_eq_zero_iff.1 (by have := List.getElem?_eq_none_iff.1 he; omega)
      subst this
      simp [fixP, nearA]
    | some es =>
      rw [nearA_pos ess es he n h0] at h1
      rw [nearA_pos _ _ (fixP_at false bt ess 0 es he) n h0]
      simpa [fix] using h1
theorem near_eq (ess : List (List LE)) (esr es : List LE) (n : Nat) (nr : Bool) (hnr : nr = (nearA ess n || hasL esr)) (hn : 0 < n) (he : ess[0]? = some es) : hasL (fix nr es) = hasL (fix nr esr) := by
  cases nr with
  | true => simp [fix, hasL_ens]
  | false =>
    obtain ⟨h1, h2⟩ := Bool.or_eq_false_iff.1 hnr.symm
    rw [nearA_pos ess es he n hn] at h1
    simp [fix, h1, h2]
theorem bet_at (ess : List (List LE)) (n : Nat) (bt : Bool) (hl : ess.length = n) (hbt : bt = betA ess n) (i : Nat) (hi : 1 ≤ i) (es : List LE) (he : ess[i]? = some es) : hasL (fix bt es) = bt := by
  cases bt with
  | true => simp [fix, hasL_ens]
  | false =>
    have h1 := hbt.symm
    unfold betA at h1
    rw [List.take_of_length_le (by omega)] at h1
    have h2 := List.any_eq_false.1 h1 es (by
      refine List.mem_of_getElem? (i := i - 1) ?_
      rw [List.getElem?_drop, show 1 + (i - 1) = i by omega]
      exact he)
    simpa [fix] using h2
theorem bet_fix (ess : List (List LE)) (n : Nat) (nr bt : Bool) (hl : ess.length = n) (hbt : bt = betA ess n) (h : bt = false) : betA (fixP nr bt ess) n = false := by
  unfold betA
  rw [List.take_of_length_le (by rw [fixP_len]; omega)]
  refine List.any_eq_false.2 fun x hx => ?_
  obtain ⟨j, hj⟩ := List.getElem?_of_mem hx
  rw [List.getElem?_drop] at hj
  have hlt : 1 + j < ess.length := by have := (List.getElem?_eq_some_iff.1 hj).1; rwa [fixP_len] at this
  obtain ⟨es, he⟩ : ∃ es, ess[1 + j]? = some es := ⟨ess[1 + j]'hlt, by simp⟩
  rw [fixP_at nr bt ess (1 + j) es he, if_neg (by omega)] at hj
  obtain rfl := Option.some.inj hj
  have := bet_at ess n bt hl hbt (1 + j) (by omega) es he
  rw [this, h]
  simp
theorem fixP_fixP (nr bt nr2 bt2 : Bool) (ess : List (List LE)) (h1 : nr = false → nr2 = false) (h2 : bt = false → bt2 = false) : fixP nr2 bt2 (fixP nr bt ess) = fixP nr bt ess := by
  apply List.ext_getElem?
  intro i
  cases he : ess[i]? with
  | none =>
    have hl := List.getElem?_eq_none_iff.1 he
    rw [List.getElem?_eq_none (by rw [fixP_len, fixP_len]; exact hl), List.getElem?_eq_none (by rw [fixP_len]; exact hl)]
  | some es =>
    have h3 := fixP_at nr bt ess i es he
    rw [fixP_at nr2 bt2 _ i _ h3, h3]
    split
    · rw [fix_fix _ _ _ h1]
    · rw [fix_fix _ _ _ h2]
theorem fixP_ok {nr bt : Bool} {ess : List (List LE)} (h : ∀ es ∈ ess, ∀ e ∈ es, OkL e) : ∀ es ∈ fixP nr bt ess, ∀ e ∈ es, OkL e := by
  intro es hes
  obtain ⟨i, hi⟩ := List.getElem?_of_mem hes
  have hl : i < ess.length := by have := (List.getElem?_eq_some_iff.1 hi).1; rwa [fixP_len] at this
  obtain ⟨es0, he⟩ : ∃ es, ess[i]? = some es := ⟨ess[i]'hl, by simp⟩
  rw [fixP_at nr bt ess i es0 he] at hi
  obtain rfl := Option.some.inj hi
  exact fix_ok (h es0 (List.mem_of_getElem? he))
theorem inf28 : (Tryf.prog.info? 28).map (fun i => (i.zero, i.size, i.bytes)) = some (some (.slice none 0 0), 1, 24) := by kernel_rfl

set_option maxRecDepth 100000 in
set_option maxHeartbeats 6400000 in
theorem law43 (a0 : Option Addr) (n0 c0 : Nat) (zs0 : List QE) (a1 : Option Addr) (n1 c1 : Nat) (ss : List QS) (a2 : Option Addr) (n2 c2 : Nat) (zs2 : List QE) (w : World) (h0 : IsQs w a0 n0 c0 zs0) (h1 : IsQss w a1 n1 c1 ss) (h2 : IsQs w a2 n2 c2 zs2) :
    Calls Tryf.prog 6 #[.slice a0 n0 c0, .slice a1 n1 c1, .slice a2 n2 c2] w fun e w' => e = .returned (.bool true) ∧ Below w.heap.size w w' := by
  have hn0 : n0 ≤ 9223372036854775807 := by have := h0.2.1; have := h0.2.2.1; unfold maxLen at this; omega
  have hn2 : n2 ≤ 9223372036854775807 := by have := h2.2.1; have := h2.2.2.1; unfold maxLen at this; omega
  have G := Lib.hid (guard25 w a0 n0 c0 a1 n1 c1 ss a2 n2 c2 hn0 h1 hn2)
  have C0 := Lib.hid (cost10 w a0 n0 c0 zs0 h0)
  have C2 := Lib.hid (cost10 w a2 n2 c2 zs2 h2)
  have C1 := Lib.hid (cost21 w a1 n1 c1 ss h1)
  have H0 := Lib.hid h0
  have H1 := Lib.hid h1
  have H2 := Lib.hid h2
  clear h0 h1 h2
  go_enter Tryf.func6, Tryf.ntmps6
  go_wp2_with fail
  refine G.out.mono ?_
  rintro e w1 ⟨r, rfl, rfl⟩
  cases r
  · go_wp2_with fail
    go_ret
    exact ⟨rfl, Below.refl _ _⟩
  clear G
  go_wp2_with fail
  refine C0.out.mono ?_
  rintro e w1 ⟨m0, rfl, rfl, hm0, hq0⟩
  go_wp2_with fail
  refine C2.out.mono ?_
  rintro e w1 ⟨m2, rfl, rfl, hm2, hq2⟩
  go_wp2_with fail
  refine C1.out.mono ?_
  rintro e w1 ⟨m1, rfl, rfl, hm1, hq1⟩
  clear C0 C1 C2
  by_cases hm : 16384 < m0 + m2 + m1
  · go_wp2_with fail
    go_ret
    exact ⟨rfl, Below.refl _ _⟩
  have hd0 : decide ((16384 : Int) < (m0 : Int) + (m2 : Int) + (m1 : Int)) = false := by simp; omega
  have s0 : n0 ≤ 16384 := hq0 (by omega)
  have s2 : n2 ≤ 16384 := hq2 (by omega)
  have s1 : n1 ≤ 16384 := (hq1 (by omega)).1
  have SL := Lib.hid (hq1 (by omega)).2
  have A0 := Lib.hid (all11 w a0 n0 c0 zs0 H0.out)
  clear hq0 hq1 hq2
  go_wp2_with fail
  refine A0.out.mono ?_
  rintro e w1 ⟨r, rfl, hb1, ho0⟩
  have B1 := Lib.hid hb1
  have O0' := Lib.hid ho0
  clear hb1 ho0 A0
  cases r
  · go_wp2_with fail
    go_ret
    exact ⟨rfl, B1.out⟩
  have O0 := Lib.hid (O0'.out rfl)
  have A2 := Lib.hid (all11 w1 a2 n2 c2 zs2 (H2.out.below B1.out))
  clear O0'
  go_wp2_with fail
  refine A2.out.mono ?_
  rintro e w2 ⟨r, rfl, hb2, ho2⟩
  have B2 := Lib.hid (B1.out.trans (hb2.mono B1.out.size))
  have O2' := Lib.hid ho2
  clear hb2 ho2 A2 B1
  cases r
  · go_wp2_with fail
    go_ret
    exact ⟨rfl, B2.out⟩
  have O2 := Lib.hid (O2'.out rfl)
  have A1 := Lib.hid (nest22 w2 a1 n1 c1 ss (H1.out.below B2.out))
  clear O2'
  go_wp2_with fail
  refine A1.out.mono ?_
  rintro e w3 ⟨r, rfl, hb3, ho1⟩
  have B3 := Lib.hid (B2.out.trans (hb3.mono B2.out.size))
  have O1' := Lib.hid ho1
  clear hb3 ho1 A1 B2
  cases r
  · go_wp2_with fail
    go_ret
    exact ⟨rfl, B3.out⟩
  have O1 := Lib.hid (O1'.out rfl)
  have hq0 := inQ_getD H0.out
  have hq2 := inQ_getD H2.out
  have M0 := Lib.hid (build12 w3 a0 n0 c0 zs0 (H0.out.below B3.out) s0 O0.out)
  clear O1'
  go_wp2_with fail
  refine M0.out.mono ?_
  rintro e w4 ⟨v0, rfl, hv0, hb4⟩
  obtain ⟨x0, rfl, _, _, _⟩ := hv0.open
  simp only [hq0] at hv0 ⊢
  have B4 := Lib.hid (B3.out.trans (hb4.mono B3.out.size))
  have sw4 := B4.out.size
  have V0 := Lib.hid hv0
  generalize hL0 : (zs0.map QE.le).length = l0 at *
  have B4a := Lib.hid (B4.out.alloc B4.out.size (.cells #[.slice x0 l0 l0] 28))
  have sz4 : (w4.alloc (.cells #[.slice x0 l0 l0] 28)).heap.size = w4.heap.size + 1 := by simp
  have M2 := Lib.hid (build12 (w4.alloc (.cells #[.slice x0 l0 l0] 28)) a2 n2 c2 zs2 (H2.out.below B4a.out) s2 O2.out)
  clear hv0 hb4 M0
  go_wp2_with fail
  refine M2.out.mono ?_
  rintro e w5 ⟨v2, rfl, hv2, hb5⟩
  obtain ⟨x2, rfl, _, _, _⟩ := hv2.open
  simp only [hq2] at hv2 ⊢
  have B5 := Lib.hid (B4a.out.trans (hb5.mono B4a.out.size))
  have V2 := Lib.hid hv2
  generalize hL2 : (zs2.map QE.le).length = l2 at *
  have L5 := Lib.hid ((Blk.new w4 28 #[.slice x0 l0 l0]).under hb5)
  have V05 := Lib.hid (V0.out.keep ((Agree.alloc _ w4 (.cells #[.slice x0 l0 l0] 28) fun b h => h.2).trans (Agree.of_below hb5 fun b h => by have := h.2; rw [sz4]; omega)))
  have s45 := hb5.size
  rw [sz4] at s45
  have B5a := Lib.hid (B5.out.alloc B5.out.size (.cells #[.slice x2 l2 l2] 28))
  have sz5 : (w5.alloc (.cells #[.slice x2 l2 l2] 28)).heap.size = w5.heap.size + 1 := by simp
  have M1 := Lib.hid (bprm23 (w5.alloc (.cells #[.slice x2 l2 l2] 28)) a1 n1 c1 ss (H1.out.below B5a.out) s1 SL.out O1.out)
  clear hv2 hb5 M2 V0 B4a B4 B3
  go_wp2_with fail
  refine M1.out.mono ?_
  rintro e w6 ⟨vs, rfl, hg, hvl, hfs, hb6⟩
  have s56 := hb6.size
  rw [sz5] at s56 hg hfs
  have hgl := hg.lt
  have B6 := Lib.hid (B5a.out.trans (hb6.mono B5a.out.size))
  have hpp : ∀ (i : Nat) (es : List LE), (ss.map fun s => s.zs.map QE.le)[i]? = some es → ∃ s, ss[i]? = some s ∧ es = s.zs.map QE.le ∧ (inQ s.a s.zs).getD [] = es := by
    intro i es hi
    rw [List.getElem?_map] at hi
    obtain ⟨s, hs, rfl⟩ := Option.map_eq_some_iff.1 hi
    exact ⟨s, hs, rfl, inQ_getD (H1.out.2.2.2.2.1 s (List.mem_of_getElem? hs))⟩
  have PS := Lib.hid (show PrmS ((w6.alloc (.cells #[.slice (some ⟨w5.heap.size + 1, 0, none⟩) n1 n1] 62)).alloc (.cells #[] 52)) (w6.heap.size + 1) w4.heap.size w5.heap.size w6.heap.size (w5.heap.size + 1) n1 (.slice x0 l0 l0) (.slice x2 l2 l2) vs (zs0.map QE.le) (zs2.map QE.le) (ss.map fun s => s.zs.map QE.le) from by
    have hc : Blk ((w6.alloc (.cells #[.slice (some ⟨w5.heap.size + 1, 0, none⟩) n1 n1] 62)).alloc (.cells #[] 52)) (w6.heap.size + 1) 52 #[] := by have := Blk.new (w6.alloc (.cells #[.slice (some ⟨w5.heap.size + 1, 0, none⟩) n1 n1] 62)) 52 #[]; simpa using this
    have fr6 : Fr w6 ((w6.alloc (.cells #[.slice (some ⟨w5.heap.size + 1, 0, none⟩) n1 n1] 62)).alloc (.cells #[] 52)) (fun _ => False) := ((Fr.refl w6 _).alloc _).alloc _
    have fr5 : Fr (w5.alloc (.cells #[.slice x2 l2 l2] 28)) ((w6.alloc (.cells #[.slice (some ⟨w5.heap.size + 1, 0, none⟩) n1 n1] 62)).alloc (.cells #[] 52)) (fun _ => False) := ((Fr.of_below hb6 _).alloc _).alloc _
    have fr55 : Fr w5 ((w6.alloc (.cells #[.slice (some ⟨w5.heap.size + 1, 0, none⟩) n1 n1] 62)).alloc (.cells #[] 52)) (fun _ => False) := ((Fr.refl w5 _).alloc _).trans fr5
    have hszW : ((w6.alloc (.cells #[.slice (some ⟨w5.heap.size + 1, 0, none⟩) n1 n1] 62)).alloc (.cells #[] 52)).heap.size = w6.heap.size + 2 := by simp
    refine ⟨hc, fr55.blk L5.out (fun h => h), fr5.blk (Blk.new w5 28 #[.slice x2 l2 l2]) (fun h => h), (Blk.new w6 62 #[.slice (some ⟨w5.heap.size + 1, 0, none⟩) n1 n1]).alloc _, fr6.blk hg (fun h => h), ⟨inQ a0 zs0, ?_, hq0, fun _ => ?_⟩, ⟨inQ a2 zs2, ?_, hq2, fun _ => ?_⟩, ?_, hvl, by rw [List.length_map]; exact H1.out.1, ⟨by omega, by omega, by omega, by omega⟩, ⟨by omega, by omega, by omega, by omega, by omega, by omega⟩⟩
    · exact (V05.out.fodV.keep (fr55.agree fun b hb => ⟨by have := hb.2; omega, fun h => h⟩)).sub fun b hb => ⟨by have := hb.2; rw [hszW]; omega, by have := hb.2; omega⟩
    · exact (V05.out.keep (fr55.agree fun b hb => ⟨by have := hb.2; omega, fun h => h⟩)).sub fun b hb => ⟨by have := hb.2; rw [hszW]; omega, by have := hb.2; omega⟩
    · exact (V2.out.fodV.keep (fr55.agree fun b hb => ⟨hb.2, fun h => h⟩)).sub fun b hb => ⟨by have := hb.2; rw [hszW]; omega, by have h7 := hb.1; rw [sz4] at h7; have := hb.2; omega⟩
    · exact (V2.out.keep (fr55.agree fun b hb => ⟨hb.2, fun h => h⟩)).sub fun b hb => ⟨by have := hb.2; rw [hszW]; omega, by have h7 := hb.1; rw [sz4] at h7; have := hb.2; omega⟩
    · intro i v es h1 h2
      obtain ⟨s, hs, _, he⟩ := hpp i es h2
      have hf := hfs i v s h1 hs
      refine ⟨inQ s.a s.zs, (hf.fodV.keep (fr6.agree fun b hb => ⟨hb.2, fun h => h⟩)).sub fun b hb => ⟨by have := hb.2; rw [hszW]; omega, by have := hb.1; have := hb.2; omega⟩, he, fun _ => (hf.keep (fr6.agree fun b hb => ⟨hb.2, fun h => h⟩)).sub fun b hb => ⟨by have := hb.2; rw [hszW]; omega, by have := hb.1; have := hb.2; omega⟩⟩)
  have B7 := Lib.hid ((B6.out.alloc B6.out.size (.cells #[.slice (some ⟨w5.heap.size + 1, 0, none⟩) n1 n1] 62)).alloc (by have := B6.out.size; simp; omega) (.cells #[] 52))
  have OLS : Hid (∀ es ∈ (ss.map fun s => s.zs.map QE.le), ∀ e ∈ es, OkL e) := Lib.hid (fun es hes e he => by
    obtain ⟨s, hs, rfl⟩ := List.mem_map.1 hes
    obtain ⟨z, hz, rfl⟩ := List.mem_map.1 he
    exact (O1.out s hs z hz).le)
  have OL2 : Hid (∀ e ∈ zs2.map QE.le, OkL e) := Lib.hid (fun e he => by obtain ⟨z, hz, rfl⟩ := List.mem_map.1 he; exact (O2.out z hz).le)
  have KP := Lib.hid (prm24 _ _ _ _ _ _ _ _ _ _ _ _ _ PS.out s1 OLS.out OL2.out .nilIface)
  have szw := B5.out.size
  clear hg hfs hb6 M1 V05 V2 L5 B6 B5a B5 hpp
  have hlp : w4.heap.size < w5.heap.size := by omega
  go_wp2_with fail
  refine KP.out.mono ?_
  rintro e w7 ⟨rfl, ⟨rv', vs', hps⟩, hfr⟩
  have PS7 := Lib.hid hps
  have BB := Lib.hid (hfr.below B7.out B7.out.size (by rintro b (h | h | h | h) <;> omega))
  clear hps hfr KP PS B7
  have HES : Hid (∀ (i : Nat) (s : QS), ss[i]? = some s → (ss.map fun s => s.zs.map QE.le)[i]? = some (s.zs.map QE.le)) := Lib.hid (fun i s h => by rw [List.getElem?_map, h]; rfl)
  have HESN : Hid ((ss.map fun s => s.zs.map QE.le).length = n1) := Lib.hid (by rw [List.length_map]; exact H1.out.1)
  have HEL : Hid (∀ (i : Nat) (es : List LE), (ss.map fun s => s.zs.map QE.le)[i]? = some es → es.length ≤ 16384) := Lib.hid (fun i es h => by
    rw [List.getElem?_map] at h
    obtain ⟨s, hs, rfl⟩ := Option.map_eq_some_iff.1 h
    have hm := List.mem_of_getElem? hs
    rw [List.length_map, (H1.out.2.2.2.2.1 s hm).1]
    exact SL.out s hm)
  have hll0 : (zs0.map QE.le).length ≤ 16384 := by rw [List.length_map, H0.out.1]; exact s0
  have hll2 : (zs2.map QE.le).length ≤ 16384 := by rw [List.length_map, H2.out.1]; exact s2
  generalize (ss.map fun s => s.zs.map QE.le) = ess at *
  generalize zs0.map QE.le = esl at *
  generalize zs2.map QE.le = esr at *
  obtain ⟨nr, hnr⟩ : ∃ nr, nr = (nearA ess n1 || hasL esr) := ⟨_, rfl⟩
  obtain ⟨bt, hbt⟩ : ∃ bt, bt = betA ess n1 := ⟨_, rfl⟩
  rw [← hnr, ← hbt] at PS7
  have HNR := Lib.hid hnr
  have HBT := Lib.hid hbt
  clear hnr hbt hL0 hL2
  have HXX : Hid (∀ b, (b = w4.heap.size ∨ b = w5.heap.size ∨ b = w6.heap.size ∨ b = w5.heap.size + 1) → b < w7.heap.size) := Lib.hid PS7.out.old
  obtain ⟨ra, rc, rfl, _⟩ := PS7.out.fr.open
  have p0 := PS7.out.bp.cell 0
  simp at p0
  have pl0 := PS7.out.bp.lt
  by_cases hz : n1 = 0
  · have hz0 : ¬ 0 < n1 := by omega
    have HZ := Lib.hid hz
    clear hz
    go_wp2_with fail
    go_quiet (fail)
    have PSW := Lib.hid (show PrmS (w7.drewN nq) _ _ _ _ _ _ _ _ _ _ _ _ from PS7.out.below ⟨rfl, rfl, rfl, Nat.le_refl _, fun _ _ => rfl⟩)
    have BBW := Lib.hid (show Below w.heap.size w (w7.drewN nq) from ⟨BB.out.os, BB.out.tape, BB.out.output, BB.out.size, BB.out.block⟩)
    clear p0 pl0 hz0
    go_wp2_with fail
    go_loopw [11] (fun i wr => ∃ k : Nat, 2 ≤ k ∧ (k ≤ n1 ∨ k = 2) ∧ i = .int .i64 k ∧ Hid (Below (w7.drewN nq).heap.size (w7.drewN nq) wr)) (fun i _ => n1 - (intOf i).toNat)
    case atStart => exact ⟨2, Nat.le_refl _, .inr rfl, rfl, Lib.hid (Below.refl _ _)⟩
    case round =>
      obtain ⟨k, hk1, hk, rfl, hbel⟩ := hrel
      obtain ⟨wo, hwo⟩ : ∃ wo, wo = wr := ⟨_, rfl⟩
      subst hwo
      have PR := Lib.hid (PSW.out.below hbel.out)
      have BR := Lib.hid (BBW.out.trans (hbel.out.mono BBW.out.size))
      have q0 := PR.out.bp.cell 0
      simp at q0
      have ql0 := PR.out.bp.lt
      by_cases hlt : k < n1
      · obtain ⟨es, hes⟩ : ∃ es, ess[k]? = some es := ⟨ess[k]'(by rw [HESN.out]; exact hlt), by simp⟩
        obtain ⟨e1, he1⟩ : ∃ es, ess[1]? = some es := ⟨ess[1]'(by rw [HESN.out]; omega), by simp⟩
        obtain ⟨v, hv⟩ : ∃ v, vs'[k]? = some v := ⟨vs'[k]'(by rw [PR.out.ln]; exact hlt), by simp⟩
        obtain ⟨v1, hv1⟩ : ∃ v, vs'[1]? = some v := ⟨vs'[1]'(by rw [PR.out.ln]; omega), by simp⟩
        have hf := PR.out.fs k v _ hv (by rw [fixP_at nr bt ess k es hes, if_neg (by omega)])
        have hf1 := PR.out.fs 1 v1 _ hv1 (by rw [fixP_at nr bt ess 1 e1 he1, if_neg (by omega)])
        have KA := Lib.hid (hasA17 wo.drew v _ (show FodR wo.drew v _ from hf.fodR))
        have KB := Lib.hid (hasA17 wo.drew v1 _ (show FodR wo.drew v1 _ from hf1.fodR))
        rw [bet_at ess n1 bt HESN.out HBT.out k (by omega) es hes] at KA
        rw [bet_at ess n1 bt HESN.out HBT.out 1 (by omega) e1 he1] at KB
        have g0 := pcell PR.out.bg hv (j := 0) (by omega)
        have g1 := pcell PR.out.bg hv1 (j := 0) (by omega)
        simp [pcs] at g0 g1
        have gl := PR.out.bg.lt
        have h1n : 1 < n1 := by omega
        have h1z : (1 : Int) < (n1 : Int) := by omega
        obtain ⟨va, vc, rfl, _⟩ := hf.open
        obtain ⟨va1, vc1, rfl, _⟩ := hf1.open
        clear hes he1 hv hv1 hf hf1
        go_wp2_with fail
        refine wp_region_all (by kernel_rfl) (by kernel_rfl) ?_
        repeat still_step
        still_call (KA.out.mono fun e w1 h => ⟨h.1, h.2.symm⟩)
        repeat still_step
        still_call (KB.out.mono fun e w1 h => ⟨h.1, h.2.symm⟩)
        repeat still_step
        refine wpStill_nil ?_
        go_wp2_with fail
        go_roundw
        case rel => exact ⟨k + 1, by omega, by omega, by go_num, Lib.hid hbel.out.drew⟩
        case measure => simp [intOf]; omega
      · have hkk : ¬ (k : Int) < (n1 : Int) := by omega
        have q1 := PR.out.bl.cell 0
        simp at q1
        have ql1 := PR.out.bl.lt
        have HX0 : Hid (∀ b, (b = w4.heap.size ∨ b = w5.heap.size ∨ b = w6.heap.size ∨ b = w5.heap.size + 1) → b < wo.heap.size) := Lib.hid PR.out.old
        have K1 := Lib.hid (copy18 wo _ esl PR.out.fl.fodR (by omega))
        clear PSW BBW hbel
        go_wp2_with fail
        refine K1.out.mono ?_
        rintro e w8 ⟨vl, rfl, hvl2, hb8⟩
        have XL := Lib.hid (made_X hvl2 HX0.out)
        obtain ⟨xl, xlc, rfl, _⟩ := XL.out.fodR.open
        rw [List.length_map] at XL
        simp only [List.length_map]
        have PS8 := Lib.hid (PR.out.below hb8)
        have BB8 := Lib.hid (BR.out.trans (hb8.mono BR.out.size))
        have q2 := PS8.out.br.cell 0
        simp at q2
        have ql2 := PS8.out.br.lt
        have hfl := fix_len nr esr
        have K2 := Lib.hid (copy18 w8 _ (fix nr esr) PS8.out.fr.fodR (by omega))
        clear hvl2 hb8 K1 q0 q1 ql0 ql1
        go_wp2_with fail
        refine K2.out.mono ?_
        rintro e w9 ⟨vr, rfl, hvr, hb9⟩
        have XR := Lib.hid (made_X hvr PS8.out.old)
        obtain ⟨xr, xrc, rfl, _⟩ := XR.out.fodR.open
        rw [List.length_map] at XR
        simp only [List.length_map]
        have XL9 := Lib.hid (XL.out.below hb9)
        have PS9 := Lib.hid (PS8.out.below hb9)
        have BB9 := Lib.hid (BB8.out.trans (hb9.mono BB8.out.size))
        have q3 := PS9.out.bp.cell 0
        simp at q3
        have ql3 := PS9.out.bp.lt
        obtain ⟨i9, hi, hz0, hz1, hz2⟩ := info_parts inf28
        have hmk := fun W => run_make_n (P := Tryf.prog) 70 28 i9 _ Tryf.underlying70 hi hz0 .i64 .i64 n1 n1 (Nat.le_refl _) (by rw [hz2]; omega) (by omega) W
        rw [hz1, Nat.mul_one] at hmk
        generalize hZ : madeCells (Value.slice none 0 0).cells n1 = Z at hmk
        obtain ⟨Z, rfl⟩ : ∃ L : List Value, Z = L.toArray := ⟨Z.toList, by simp⟩
        have HZn := Lib.hid (show Z.length = n1 by have := congrArg Array.size hZ; simp [size_madeCells, Value.cells] at this; omega)
        have HXX9 : Hid (∀ b, (b = w4.heap.size ∨ b = w5.heap.size ∨ b = w6.heap.size ∨ b = w5.heap.size + 1) → b < w9.heap.size) := Lib.hid PS9.out.old
        clear hvr hb9 K2 q2 ql2 hZ hi hz0 hz1 hz2 XL PS8
        go_wp2_with fail
        go_loopw [15] (fun i wr => ∃ j : Nat, j ≤ n1 ∧ i = .int .i64 j ∧ Hid (∃ us : List Value, Blk wr w9.heap.size 28 us.toArray ∧ us.length = n1 ∧ ∀ (i : Nat) (u : Value) (es : List LE), i < j → us[i]? = some u → ess[i]? = some es → FodX wr (fun b => b = w4.heap.size ∨ b = w5.heap.size ∨ b = w6.heap.size ∨ b = w5.heap.size + 1 ∨ b = w9.heap.size) u ((fix (if i = 0 then nr else bt) es).map norm)) ∧ Hid (Below w9.heap.size w9 wr)) (fun i _ => n1 - (intOf i).toNat)
        case atStart => exact ⟨0, Nat.zero_le _, rfl, Lib.hid ⟨Z, Blk.new _ _ _, HZn.out, fun i u es h => absurd h (Nat.not_lt_zero _)⟩, Lib.hid ((Below.refl _ _).alloc (Nat.le_refl _) _)⟩
        case round =>
          clear q3 ql3
          obtain ⟨j, hj, rfl, hus, hbel⟩ := hrel
          obtain ⟨wo, hwo⟩ : ∃ wo, wo = wr := ⟨_, rfl⟩
          subst hwo
          obtain ⟨us, hbu, hul, hfu⟩ := hus.out
          have PR := Lib.hid (PS9.out.below hbel.out)
          have BR := Lib.hid (BB9.out.trans (hbel.out.mono BB9.out.size))
          have HU := Lib.hid hbu
          have HFU := Lib.hid hfu
          have q4 := PR.out.bp.cell 0
          simp at q4
          have ql4 := PR.out.bp.lt
          have ul := hbu.lt
          have HX6 : Hid (∀ b, (b = w4.heap.size ∨ b = w5.heap.size ∨ b = w6.heap.size ∨ b = w5.heap.size + 1 ∨ b = w9.heap.size) → b < wo.heap.size) := Lib.hid (by
            have h9 := HXX9.out
            have hs := hbel.out.size
            rintro b (h | h | h | h | h)
            · have := h9 b (.inl h); omega
            · have := h9 b (.inr (.inl h)); omega
            · have := h9 b (.inr (.inr (.inl h))); omega
            · have := h9 b (.inr (.inr (.inr h))); omega
            · omega)
          clear hus hbu hfu
          by_cases hjt : j < n1
          · obtain ⟨es, hes⟩ : ∃ es, ess[j]? = some es := ⟨ess[j]'(by rw [HESN.out]; exact hjt), by simp⟩
            obtain ⟨v, hv⟩ : ∃ v, vs'[j]? = some v := ⟨vs'[j]'(by rw [PR.out.ln]; exact hjt), by simp⟩
            obtain ⟨u, hu⟩ : ∃ v, us[j]? = some v := ⟨us[j]'(by rw [hul]; exact hjt), by simp⟩
            have hfl2 := fix_len (if j = 0 then nr else bt) es
            have hel := HEL.out j es hes
            have hf := PR.out.fs j v _ hv (fixP_at nr bt ess j es hes)
            obtain ⟨fe, hfe⟩ : ∃ fe, fe = fix (if j = 0 then nr else bt) es := ⟨_, rfl⟩
            rw [← hfe] at hf hfl2
            have HFE := Lib.hid hfe
            have HES2 := Lib.hid hes
            have HUJ := Lib.hid hu
            have K := Lib.hid (copy18 wo v fe hf.fodR (by omega))
            have g0 := pcell PR.out.bg hv (j := 0) (by omega)
            simp [pcs] at g0
            have gl := PR.out.bg.lt
            obtain ⟨va, vc, rfl, _⟩ := hf.open
            clear hes hv hu hf hfe hmk
            go_wp2_with fail
            refine K.out.mono ?_
            rintro e w10 ⟨vx, rfl, hvx, hb10⟩
            have XV := Lib.hid (made_X hvx HX6.out)
            obtain ⟨xv, xvc, rfl, _⟩ := XV.out.fodR.open
            rw [List.length_map] at XV
            simp only [List.length_map]
            have HU10 : Hid (Blk w10 w9.heap.size 28 us.toArray) := Lib.hid ((hb10.block _ ul).trans HU.out)
            have uc := HU10.out.cell j
            rw [List.getElem?_toArray, HUJ.out] at uc
            have uf := HU10.out.free j
            have ul2 := HU10.out.lt
            have FR := Lib.hid ((Fr.refl w10 (fun b => b = w9.heap.size)).setCell ⟨w9.heap.size, j, none⟩ (.slice xv fe.length xvc) (.inl rfl))
            have HSET := Lib.hid (HU10.out.set j (.slice xv fe.length xvc))
            have BN := Lib.hid ((hbel.out.trans (hb10.mono hbel.out.size)).setCell (p := ⟨w9.heap.size, j, none⟩) (Nat.le_refl _) (.slice xv fe.length xvc))
            have HFB := Lib.hid (fun i u es h1 h2 h3 => (HFU.out i u es h1 h2 h3).below hb10)
            clear hvx hb10 K q4 ql4 g0 gl
            go_wp2_with fail
            go_roundw
            case rel =>
              refine ⟨j + 1, by omega, by go_num, Lib.hid ⟨us.set j (.slice xv fe.length xvc), by have := HSET.out; simpa using this, by simp [hul], fun i u' es' hi h1 h2 => ?_⟩, BN⟩
              rcases Nat.lt_or_ge i j with h | h
              · rw [List.getElem?_set_ne (by omega)] at h1
                exact (HFB.out i u' es' h h1 h2).fr FR.out fun b hb => .inr (.inr (.inr (.inr hb)))
              · obtain rfl : i = j := by omega
                rw [List.getElem?_set_self (by rw [hul]; exact hjt)] at h1
                obtain rfl := Option.some.inj h1
                rw [HES2.out] at h2
                obtain rfl := Option.some.inj h2
                rw [← HFE.out]
                exact XV.out.fr FR.out fun b hb => .inr (.inr (.inr (.inr hb)))
            case measure => simp [intOf]; omega
          · obtain rfl : j = n1 := by omega
            have K4 := Lib.hid (prm24 wo _ _ _ _ _ _ _ _ _ _ _ _ PR.out s1 (fixP_ok OLS.out) (fix_ok OL2.out) .nilIface)
            rw [fix_fix nr _ esr (near_fix ess esr j nr bt HNR.out), fixP_fixP nr bt _ _ ess (near_fix ess esr j nr bt HNR.out) (bet_fix ess j nr bt HESN.out HBT.out)] at K4
            have XL10 := Lib.hid (XL9.out.below (hbel.out))
            have XR10 := Lib.hid (XR.out.below (hbel.out))
            clear hmk
            go_wp2_with fail
            refine K4.out.mono ?_
            rintro e w11 ⟨rfl, ⟨rv2, vs2, hps⟩, hfr⟩
            have PS11 := Lib.hid hps
            have XL11 := Lib.hid (XL10.out.fr hfr fun b h => h)
            have XR11 := Lib.hid (XR10.out.fr hfr fun b h => h)
            have HU11 := Lib.hid (hfr.blk HU.out (by have h9 := HXX9.out; rintro (h | h | h | h); have := h9 _ (.inl h); omega; have := h9 _ (.inr (.inl h)); omega; have := h9 _ (.inr (.inr (.inl h))); omega; have := h9 _ (.inr (.inr (.inr h))); omega))
            have HFU11 := Lib.hid (fun i u es h1 h2 h3 => (HFU.out i u es h1 h2 h3).fr hfr fun b hb => by rcases hb with h | h | h | h; exact .inl h; exact .inr (.inl h); exact .inr (.inr (.inl h)); exact .inr (.inr (.inr (.inl h))))
            have BB11 := Lib.hid (hfr.below BR.out BR.out.size (by rintro b (h | h | h | h) <;> omega))
            obtain ⟨ra2, rc2, rfl, _⟩ := PS11.out.fr.open
            have q5 := PS11.out.bl.cell 0
            simp at q5
            have ql5 := PS11.out.bl.lt
            clear hps hfr K4 q4 ql4
            go_wp2_with fail
            refine (eq19 w11 _ _ esl _ PS11.out.fl.fodR XL11.out.fodR (norm_norm esl).symm).mono ?_
            rintro e w12 ⟨rfl, hb12⟩
            have PS12 := Lib.hid (PS11.out.below hb12)
            have XR12 := Lib.hid (XR11.out.below hb12)
            have HU12 := Lib.hid (HU11.out.under hb12)
            have HFU12 := Lib.hid (fun i u es h1 h2 h3 => (HFU11.out i u es h1 h2 h3).below hb12)
            have BB12 := Lib.hid (BB11.out.trans (hb12.mono BB11.out.size))
            have q6 := PS12.out.br.cell 0
            simp at q6
            have ql6 := PS12.out.br.lt
            clear hb12 q5 ql5
            go_wp2_with fail
            refine (eq19 w12 _ _ (fix nr esr) _ PS12.out.fr.fodR XR12.out.fodR (norm_norm _).symm).mono ?_
            rintro e w13 ⟨rfl, hb13⟩
            have PS13 := Lib.hid (PS12.out.below hb13)
            have HU13 := Lib.hid (HU12.out.under hb13)
            have HFU13 := Lib.hid (fun i u es h1 h2 h3 => (HFU12.out i u es h1 h2 h3).below hb13)
            have BB13 := Lib.hid (BB12.out.trans (hb13.mono BB12.out.size))
            have q7 := PS13.out.bp.cell 0
            simp at q7
            have ql7 := PS13.out.bp.lt
            clear hb13 q6 ql6
            go_wp2_with fail
            go_loopw [16] (fun i wr => ∃ k : Nat, k ≤ j ∧ i = .int .i64 k ∧ Hid (Below w13.heap.size w13 wr)) (fun i _ => j - (intOf i).toNat)
            case atStart => exact ⟨0, Nat.zero_le _, rfl, Lib.hid (Below.refl _ _)⟩
            case round =>
              clear q7 ql7
              rename_i wq
              obtain ⟨k, hk, rfl, hbel2⟩ := hrel
              obtain ⟨wp, hwp⟩ : ∃ wp, wp = wr := ⟨_, rfl⟩
              subst hwp
              have PQ := Lib.hid (PS13.out.below hbel2.out)
              have BQ := Lib.hid (BB13.out.trans (hbel2.out.mono BB13.out.size))
              have HUQ := Lib.hid (HU13.out.under hbel2.out)
              have q8 := PQ.out.bp.cell 0
              simp at q8
              have ql8 := PQ.out.bp.lt
              by_cases hkt : k < j
              · obtain ⟨es, hes⟩ : ∃ es, ess[k]? = some es := ⟨ess[k]'(by rw [HESN.out]; exact hkt), by simp⟩
                obtain ⟨v, hv⟩ : ∃ v, vs2[k]? = some v := ⟨vs2[k]'(by rw [PQ.out.ln]; exact hkt), by simp⟩
                obtain ⟨u, hu⟩ : ∃ v, us[k]? = some v := ⟨us[k]'(by rw [hul]; exact hkt), by simp⟩
                have hf := PQ.out.fs k v _ hv (fixP_at nr bt ess k es hes)
                have hx := (HFU13.out k u es hkt hu hes).below hbel2.out
                obtain ⟨fe, hfe⟩ : ∃ fe, fe = fix (if k = 0 then nr else bt) es := ⟨_, rfl⟩
                rw [← hfe] at hf hx
                have uc := HUQ.out.cell k
                rw [List.getElem?_toArray, hu] at uc
                have ulq := HUQ.out.lt
                have g0 := pcell PQ.out.bg hv (j := 0) (by omega)
                simp [pcs] at g0
                have gl := PQ.out.bg.lt
                have KE := Lib.hid (eq19 wp.drew v u fe _ (show FodR wp.drew v fe from hf.fodR) (show FodR wp.drew u _ from hx.fodR) (norm_norm fe).symm)
                obtain ⟨va, vc, rfl, _⟩ := hf.open
                obtain ⟨ua, uc2, rfl, _⟩ := hx.fodR.open
                rw [List.length_map] at KE uc
                clear hes hv hu hf hx hfe
                go_wp2_with fail
                refine wp_region_tail 9 (by kernel_rfl) (by kernel_rfl) ?_
                simp only [List.take_succ_cons, List.take_zero, List.drop_succ_cons, List.drop_zero]
                repeat still_step
                refine wpStill_nil ?_
                go_wp2_with fail
                refine KE.out.mono ?_
                rintro e w14 ⟨rfl, hb14⟩
                have BN := Lib.hid (hbel2.out.drew.trans (hb14.mono hbel2.out.size))
                clear hb14 KE
                go_wp2_with fail
                go_roundw
                case rel => exact ⟨k + 1, by omega, by go_num, BN⟩
                case measure => simp [intOf]; omega
              · obtain rfl : k = j := by omega
                go_wp2_with fail
                go_ret
                exact ⟨rfl, BQ.out⟩
  · have hz0 : 0 < n1 := by omega
    obtain ⟨e0, he0⟩ : ∃ es, ess[0]? = some es := ⟨ess[0]'(by rw [HESN.out]; exact hz0), by simp⟩
    obtain ⟨v, hv⟩ : ∃ v, vs'[0]? = some v := ⟨vs'[0]'(by rw [PS7.out.ln]; exact hz0), by simp⟩
    have hf := PS7.out.fs 0 v _ hv (by rw [fixP_at nr bt ess 0 e0 he0, if_pos rfl])
    have KA := Lib.hid (hasA17 w7.drew v _ (show FodR w7.drew v _ from hf.fodR))
    have KB := Lib.hid (hasA17 w7.drew _ _ (show FodR w7.drew _ _ from PS7.out.fr.fodR))
    rw [near_eq ess esr e0 n1 nr HNR.out hz0 he0] at KA
    have g0 := pcell PS7.out.bg hv (j := 0) (by omega)
    simp [pcs] at g0
    have gl := PS7.out.bg.lt
    have r0 := PS7.out.br.cell 0
    simp at r0
    have rl := PS7.out.br.lt
    obtain ⟨va, vc, rfl, _⟩ := hf.open
    clear hv hf he0
    go_wp2_with fail
    refine wp_region_all (by kernel_rfl) (by kernel_rfl) ?_
    repeat still_step
    still_call (KA.out.mono fun e w1 h => ⟨h.1, h.2.symm⟩)
    repeat still_step
    still_call (KB.out.mono fun e w1 h => ⟨h.1, h.2.symm⟩)
    repeat still_step
    refine wpStill_nil ?_
    have PSW := Lib.hid (show PrmS w7.drew _ _ _ _ _ _ _ _ _ _ _ _ from PS7.out.below (Below.refl _ _).drew)
    have BBW := Lib.hid (show Below w.heap.size w w7.drew from BB.out.drew)
    clear p0 pl0 g0 gl r0 rl KA KB
    go_wp2_with fail
    go_loopw [11] (fun i wr => ∃ k : Nat, 2 ≤ k ∧ (k ≤ n1 ∨ k = 2) ∧ i = .int .i64 k ∧ Hid (Below w7.drew.heap.size w7.drew wr)) (fun i _ => n1 - (intOf i).toNat)
    case atStart => exact ⟨2, Nat.le_refl _, .inr rfl, rfl, Lib.hid (Below.refl _ _)⟩
    case round =>
      obtain ⟨k, hk1, hk, rfl, hbel⟩ := hrel
      obtain ⟨wo, hwo⟩ : ∃ wo, wo = wr := ⟨_, rfl⟩
      subst hwo
      have PR := Lib.hid (PSW.out.below hbel.out)
      have BR := Lib.hid (BBW.out.trans (hbel.out.mono BBW.out.size))
      have q0 := PR.out.bp.cell 0
      simp at q0
      have ql0 := PR.out.bp.lt
      by_cases hlt : k < n1
      · obtain ⟨es, hes⟩ : ∃ es, ess[k]? = some es := ⟨ess[k]'(by rw [HESN.out]; exact hlt), by simp⟩
        obtain ⟨e1, he1⟩ : ∃ es, ess[1]? = some es := ⟨ess[1]'(by rw [HESN.out]; omega), by simp⟩
        obtain ⟨v, hv⟩ : ∃ v, vs'[k]? = some v := ⟨vs'[k]'(by rw [PR.out.ln]; exact hlt), by simp⟩
        obtain ⟨v1, hv1⟩ : ∃ v, vs'[1]? = some v := ⟨vs'[1]'(by rw [PR.out.ln]; omega), by simp⟩
        have hf := PR.out.fs k v _ hv (by rw [fixP_at nr bt ess k es hes, if_neg (by omega)])
        have hf1 := PR.out.fs 1 v1 _ hv1 (by rw [fixP_at nr bt ess 1 e1 he1, if_neg (by omega)])
        have KA := Lib.hid (hasA17 wo.drew v _ (show FodR wo.drew v _ from hf.fodR))
        have KB := Lib.hid (hasA17 wo.drew v1 _ (show FodR wo.drew v1 _ from hf1.fodR))
        rw [bet_at ess n1 bt HESN.out HBT.out k (by omega) es hes] at KA
        rw [bet_at ess n1 bt HESN.out HBT.out 1 (by omega) e1 he1] at KB
        have g0 := pcell PR.out.bg hv (j := 0) (by omega)
        have g1 := pcell PR.out.bg hv1 (j := 0) (by omega)
        simp [pcs] at g0 g1
        have gl := PR.out.bg.lt
        have h1n : 1 < n1 := by omega
        have h1z : (1 : Int) < (n1 : Int) := by omega
        obtain ⟨va, vc, rfl, _⟩ := hf.open
        obtain ⟨va1, vc1, rfl, _⟩ := hf1.open
        clear hes he1 hv hv1 hf hf1
        go_wp2_with fail
        refine wp_region_all (by kernel_rfl) (by kernel_rfl) ?_
        repeat still_step
        still_call (KA.out.mono fun e w1 h => ⟨h.1, h.2.symm⟩)
        repeat still_step
        still_call (KB.out.mono fun e w1 h => ⟨h.1, h.2.symm⟩)
        repeat still_step
        refine wpStill_nil ?_
        go_wp2_with fail
        go_roundw
        case rel => exact ⟨k + 1, by omega, by omega, by go_num, Lib.hid hbel.out.drew⟩
        case measure => simp [intOf]; omega
      · have hkk : ¬ (k : Int) < (n1 : Int) := by omega
        have q1 := PR.out.bl.cell 0
        simp at q1
        have ql1 := PR.out.bl.lt
        have HX0 : Hid (∀ b, (b = w4.heap.size ∨ b = w5.heap.size ∨ b = w6.heap.size ∨ b = w5.heap.size + 1) → b < wo.heap.size) := Lib.hid PR.out.old
        have K1 := Lib.hid (copy18 wo _ esl PR.out.fl.fodR (by omega))
        clear PSW BBW hbel
        go_wp2_with fail
        refine K1.out.mono ?_
        rintro e w8 ⟨vl, rfl, hvl2, hb8⟩
        have XL := Lib.hid (made_X hvl2 HX0.out)
        obtain ⟨xl, xlc, rfl, _⟩ := XL.out.fodR.open
        rw [List.length_map] at XL
        simp only [List.length_map]
        have PS8 := Lib.hid (PR.out.below hb8)
        have BB8 := Lib.hid (BR.out.trans (hb8.mono BR.out.size))
        have q2 := PS8.out.br.cell 0
        simp at q2
        have ql2 := PS8.out.br.lt
        have hfl := fix_len nr esr
        have K2 := Lib.hid (copy18 w8 _ (fix nr esr) PS8.out.fr.fodR (by omega))
        clear hvl2 hb8 K1 q0 q1 ql0 ql1
        go_wp2_with fail
        refine K2.out.mono ?_
        rintro e w9 ⟨vr, rfl, hvr, hb9⟩
        have XR := Lib.hid (made_X hvr PS8.out.old)
        obtain ⟨xr, xrc, rfl, _⟩ := XR.out.fodR.open
        rw [List.length_map] at XR
        simp only [List.length_map]
        have XL9 := Lib.hid (XL.out.below hb9)
        have PS9 := Lib.hid (PS8.out.below hb9)
        have BB9 := Lib.hid (BB8.out.trans (hb9.mono BB8.out.size))
        have q3 := PS9.out.bp.cell 0
        simp at q3
        have ql3 := PS9.out.bp.lt
        obtain ⟨i9, hi, hz0, hz1, hz2⟩ := info_parts inf28
        have hmk := fun W => run_make_n (P := Tryf.prog) 70 28 i9 _ Tryf.underlying70 hi hz0 .i64 .i64 n1 n1 (Nat.le_refl _) (by rw [hz2]; omega) (by omega) W
        rw [hz1, Nat.mul_one] at hmk
        generalize hZ : madeCells (Value.slice none 0 0).cells n1 = Z at hmk
        obtain ⟨Z, rfl⟩ : ∃ L : List Value, Z = L.toArray := ⟨Z.toList, by simp⟩
        have HZn := Lib.hid (show Z.length = n1 by have := congrArg Array.size hZ; simp [size_madeCells, Value.cells] at this; omega)
        have HXX9 : Hid (∀ b, (b = w4.heap.size ∨ b = w5.heap.size ∨ b = w6.heap.size ∨ b = w5.heap.size + 1) → b < w9.heap.size) := Lib.hid PS9.out.old
        clear hvr hb9 K2 q2 ql2 hZ hi hz0 hz1 hz2 XL PS8
        go_wp2_with fail
        go_loopw [15] (fun i wr => ∃ j : Nat, j ≤ n1 ∧ i = .int .i64 j ∧ Hid (∃ us : List Value, Blk wr w9.heap.size 28 us.toArray ∧ us.length = n1 ∧ ∀ (i : Nat) (u : Value) (es : List LE), i < j → us[i]? = some u → ess[i]? = some es → FodX wr (fun b => b = w4.heap.size ∨ b = w5.heap.size ∨ b = w6.heap.size ∨ b = w5.heap.size + 1 ∨ b = w9.heap.size) u ((fix (if i = 0 then nr else bt) es).map norm)) ∧ Hid (Below w9.heap.size w9 wr)) (fun i _ => n1 - (intOf i).toNat)
        case atStart => exact ⟨0, Nat.zero_le _, rfl, Lib.hid ⟨Z, Blk.new _ _ _, HZn.out, fun i u es h => absurd h (Nat.not_lt_zero _)⟩, Lib.hid ((Below.refl _ _).alloc (Nat.le_refl _) _)⟩
        case round =>
          clear q3 ql3
          obtain ⟨j, hj, rfl, hus, hbel⟩ := hrel
          obtain ⟨wo, hwo⟩ : ∃ wo, wo = wr := ⟨_, rfl⟩
          subst hwo
          obtain ⟨us, hbu, hul, hfu⟩ := hus.out
          have PR := Lib.hid (PS9.out.below hbel.out)
          have BR := Lib.hid (BB9.out.trans (hbel.out.mono BB9.out.size))
          have HU := Lib.hid hbu
          have HFU := Lib.hid hfu
          have q4 := PR.out.bp.cell 0
          simp at q4
          have ql4 := PR.out.bp.lt
          have ul := hbu.lt
          have HX6 : Hid (∀ b, (b = w4.heap.size ∨ b = w5.heap.size ∨ b = w6.heap.size ∨ b = w5.heap.size + 1 ∨ b = w9.heap.size) → b < wo.heap.size) := Lib.hid (by
            have h9 := HXX9.out
            have hs := hbel.out.size
            rintro b (h | h | h | h | h)
            · have := h9 b (.inl h); omega
            · have := h9 b (.inr (.inl h)); omega
            · have := h9 b (.inr (.inr (.inl h))); omega
            · have := h9 b (.inr (.inr (.inr h))); omega
            · omega)
          clear hus hbu hfu
          by_cases hjt : j < n1
          · obtain ⟨es, hes⟩ : ∃ es, ess[j]? = some es := ⟨ess[j]'(by rw [HESN.out]; exact hjt), by simp⟩
            obtain ⟨v, hv⟩ : ∃ v, vs'[j]? = some v := ⟨vs'[j]'(by rw [PR.out.ln]; exact hjt), by simp⟩
            obtain ⟨u, hu⟩ : ∃ v, us[j]? = some v := ⟨us[j]'(by rw [hul]; exact hjt), by simp⟩
            have hfl2 := fix_len (if j = 0 then nr else bt) es
            have hel := HEL.out j es hes
            have hf := PR.out.fs j v _ hv (fixP_at nr bt ess j es hes)
            obtain ⟨fe, hfe⟩ : ∃ fe, fe = fix (if j = 0 then nr else bt) es := ⟨_, rfl⟩
            rw [← hfe] at hf hfl2
            have HFE := Lib.hid hfe
            have HES2 := Lib.hid hes
            have HUJ := Lib.hid hu
            have K := Lib.hid (copy18 wo v fe hf.fodR (by omega))
            have g0 := pcell PR.out.bg hv (j := 0) (by omega)
            simp [pcs] at g0
            have gl := PR.out.bg.lt
            obtain ⟨va, vc, rfl, _⟩ := hf.open
            clear hes hv hu hf hfe hmk
            go_wp2_with fail
            refine K.out.mono ?_
            rintro e w10 ⟨vx, rfl, hvx, hb10⟩
            have XV := Lib.hid (made_X hvx HX6.out)
            obtain ⟨xv, xvc, rfl, _⟩ := XV.out.fodR.open
            rw [List.length_map] at XV
            simp only [List.length_map]
            have HU10 : Hid (Blk w10 w9.heap.size 28 us.toArray) := Lib.hid ((hb10.block _ ul).trans HU.out)
            have uc := HU10.out.cell j
            rw [List.getElem?_toArray, HUJ.out] at uc
            have uf := HU10.out.free j
            have ul2 := HU10.out.lt
            have FR := Lib.hid ((Fr.refl w10 (fun b => b = w9.heap.size)).setCell ⟨w9.heap.size, j, none⟩ (.slice xv fe.length xvc) (.inl rfl))
            have HSET := Lib.hid (HU10.out.set j (.slice xv fe.length xvc))
            have BN := Lib.hid ((hbel.out.trans (hb10.mono hbel.out.size)).setCell (p := ⟨w9.heap.size, j, none⟩) (Nat.le_refl _) (.slice xv fe.length xvc))
            have HFB := Lib.hid (fun i u es h1 h2 h3 => (HFU.out i u es h1 h2 h3).below hb10)
            clear hvx hb10 K q4 ql4 g0 gl
            go_wp2_with fail
            go_roundw
            case rel =>
              refine ⟨j + 1, by omega, by go_num, Lib.hid ⟨us.set j (.slice xv fe.length xvc), by have := HSET.out; simpa using this, by simp [hul], fun i u' es' hi h1 h2 => ?_⟩, BN⟩
              rcases Nat.lt_or_ge i j with h | h
              · rw [List.getElem?_set_ne (by omega)] at h1
                exact (HFB.out i u' es' h h1 h2).fr FR.out fun b hb => .inr (.inr (.inr (.inr hb)))
              · obtain rfl : i = j := by omega
                rw [List.getElem?_set_self (by rw [hul]; exact hjt)] at h1
                obtain rfl := Option.some.inj h1
                rw [HES2.out] at h2
                obtain rfl := Option.some.inj h2
                rw [← HFE.out]
                exact XV.out.fr FR.out fun b hb => .inr (.inr (.inr (.inr hb)))
            case measure => simp [intOf]; omega
          · obtain rfl : j = n1 := by omega
            have K4 := Lib.hid (prm24 wo _ _ _ _ _ _ _ _ _ _ _ _ PR.out s1 (fixP_ok OLS.out) (fix_ok OL2.out) .nilIface)
            rw [fix_fix nr _ esr (near_fix ess esr j nr bt HNR.out), fixP_fixP nr bt _ _ ess (near_fix ess esr j nr bt HNR.out) (bet_fix ess j nr bt HESN.out HBT.out)] at K4
            have XL10 := Lib.hid (XL9.out.below (hbel.out))
            have XR10 := Lib.hid (XR.out.below (hbel.out))
            clear hmk
            go_wp2_with fail
            refine K4.out.mono ?_
            rintro e w11 ⟨rfl, ⟨rv2, vs2, hps⟩, hfr⟩
            have PS11 := Lib.hid hps
            have XL11 := Lib.hid (XL10.out.fr hfr fun b h => h)
            have XR11 := Lib.hid (XR10.out.fr hfr fun b h => h)
            have HU11 := Lib.hid (hfr.blk HU.out (by have h9 := HXX9.out; rintro (h | h | h | h); have := h9 _ (.inl h); omega; have := h9 _ (.inr (.inl h)); omega; have := h9 _ (.inr (.inr (.inl h))); omega; have := h9 _ (.inr (.inr (.inr h))); omega))
            have HFU11 := Lib.hid (fun i u es h1 h2 h3 => (HFU.out i u es h1 h2 h3).fr hfr fun b hb => by rcases hb with h | h | h | h; exact .inl h; exact .inr (.inl h); exact .inr (.inr (.inl h)); exact .inr (.inr (.inr (.inl h))))
            have BB11 := Lib.hid (hfr.below BR.out BR.out.size (by rintro b (h | h | h | h) <;> omega))
            obtain ⟨ra2, rc2, rfl, _⟩ := PS11.out.fr.open
            have q5 := PS11.out.bl.cell 0
            simp at q5
            have ql5 := PS11.out.bl.lt
            clear hps hfr K4 q4 ql4
            go_wp2_with fail
            refine (eq19 w11 _ _ esl _ PS11.out.fl.fodR XL11.out.fodR (norm_norm esl).symm).mono ?_
            rintro e w12 ⟨rfl, hb12⟩
            have PS12 := Lib.hid (PS11.out.below hb12)
            have XR12 := Lib.hid (XR11.out.below hb12)
            have HU12 := Lib.hid (HU11.out.under hb12)
            have HFU12 := Lib.hid (fun i u es h1 h2 h3 => (HFU11.out i u es h1 h2 h3).below hb12)
            have BB12 := Lib.hid (BB11.out.trans (hb12.mono BB11.out.size))
            have q6 := PS12.out.br.cell 0
            simp at q6
            have ql6 := PS12.out.br.lt
            clear hb12 q5 ql5
            go_wp2_with fail
            refine (eq19 w12 _ _ (fix nr esr) _ PS12.out.fr.fodR XR12.out.fodR (norm_norm _).symm).mono ?_
            rintro e w13 ⟨rfl, hb13⟩
            have PS13 := Lib.hid (PS12.out.below hb13)
            have HU13 := Lib.hid (HU12.out.under hb13)
            have HFU13 := Lib.hid (fun i u es h1 h2 h3 => (HFU12.out i u es h1 h2 h3).below hb13)
            have BB13 := Lib.hid (BB12.out.trans (hb13.mono BB12.out.size))
            have q7 := PS13.out.bp.cell 0
            simp at q7
            have ql7 := PS13.out.bp.lt
            clear hb13 q6 ql6
            go_wp2_with fail
            go_loopw [16] (fun i wr => ∃ k : Nat, k ≤ j ∧ i = .int .i64 k ∧ Hid (Below w13.heap.size w13 wr)) (fun i _ => j - (intOf i).toNat)
            case atStart => exact ⟨0, Nat.zero_le _, rfl, Lib.hid (Below.refl _ _)⟩
            case round =>
              clear q7 ql7
              rename_i wq
              obtain ⟨k, hk, rfl, hbel2⟩ := hrel
              obtain ⟨wp, hwp⟩ : ∃ wp, wp = wr := ⟨_, rfl⟩
              subst hwp
              have PQ := Lib.hid (PS13.out.below hbel2.out)
              have BQ := Lib.hid (BB13.out.trans (hbel2.out.mono BB13.out.size))
              have HUQ := Lib.hid (HU13.out.under hbel2.out)
              have q8 := PQ.out.bp.cell 0
              simp at q8
              have ql8 := PQ.out.bp.lt
              by_cases hkt : k < j
              · obtain ⟨es, hes⟩ : ∃ es, ess[k]? = some es := ⟨ess[k]'(by rw [HESN.out]; exact hkt), by simp⟩
                obtain ⟨v, hv⟩ : ∃ v, vs2[k]? = some v := ⟨vs2[k]'(by rw [PQ.out.ln]; exact hkt), by simp⟩
                obtain ⟨u, hu⟩ : ∃ v, us[k]? = some v := ⟨us[k]'(by rw [hul]; exact hkt), by simp⟩
                have hf := PQ.out.fs k v _ hv (fixP_at nr bt ess k es hes)
                have hx := (HFU13.out k u es hkt hu hes).below hbel2.out
                obtain ⟨fe, hfe⟩ : ∃ fe, fe = fix (if k = 0 then nr else bt) es := ⟨_, rfl⟩
                rw [← hfe] at hf hx
                have uc := HUQ.out.cell k
                rw [List.getElem?_toArray, hu] at uc
                have ulq := HUQ.out.lt
                have g0 := pcell PQ.out.bg hv (j := 0) (by omega)
                simp [pcs] at g0
                have gl := PQ.out.bg.lt
                have KE := Lib.hid (eq19 wp.drew v u fe _ (show FodR wp.drew v fe from hf.fodR) (show FodR wp.drew u _ from hx.fodR) (norm_norm fe).symm)
                obtain ⟨va, vc, rfl, _⟩ := hf.open
                obtain ⟨ua, uc2, rfl, _⟩ := hx.fodR.open
                rw [List.length_map] at KE uc
                clear hes hv hu hf hx hfe
                go_wp2_with fail
                refine wp_region_tail 9 (by kernel_rfl) (by kernel_rfl) ?_
                simp only [List.take_succ_cons, List.take_zero, List.drop_succ_cons, List.drop_zero]
                repeat still_step
                refine wpStill_nil ?_
                go_wp2_with fail
                refine KE.out.mono ?_
                rintro e w14 ⟨rfl, hb14⟩
                have BN := Lib.hid (hbel2.out.drew.trans (hb14.mono hbel2.out.size))
                clear hb14 KE
                go_wp2_with fail
                go_roundw
                case rel => exact ⟨k + 1, by omega, by go_num, BN⟩
                case measure => simp [intOf]; omega
              · obtain rfl : k = j := by omega
                go_wp2_with fail
                go_ret
                exact ⟨rfl, BQ.out⟩
end Go.Proofs.YtlaghkppjdphnaaFmt
