/- The walk of the law on what Parameters does. -/
import Derived.Test.YtlaghkppjdphnaaFmtPbl
import Derived.Test.YtlaghkppjdphnaaFmtL18
namespace Go.Proofs.YtlaghkppjdphnaaFmt
open Go.RowKit
set_option linter.unusedVariables false

set_option maxRecDepth 100000 in
theorem guard20 (w : World) (a0 : Option Addr) (n0 c0 : Nat) (a1 : Option Addr) (n1 c1 : Nat) (ss : List QS) (a2 : Option Addr) (n2 c2 : Nat) (h0 : n0 ≤ 9223372036854775807) (h1 : IsQss w a1 n1 c1 ss) (h2 : n2 ≤ 9223372036854775807) : Calls Tryf.prog 20 #[.slice a0 n0 c0, .slice a1 n1 c1, .slice a2 n2 c2] w (SomeB w) := by
  have m1 : n1 ≤ 9223372036854775807 := by have := h1.2.1; have := h1.2.2.1; unfold maxLen at this; omega
  have H := Lib.hid h1
  clear h1
  by_cases t0 : 1048576 < n0
  · go_enter Tryf.func20, Tryf.ntmps20
    go_wp2
    go_ret
    exact ⟨false, rfl, rfl⟩
  by_cases t1 : 1048576 < n1
  · go_enter Tryf.func20, Tryf.ntmps20
    go_wp2
    go_ret
    exact ⟨false, rfl, rfl⟩
  by_cases t2 : 1048576 < n0 + n1
  · go_enter Tryf.func20, Tryf.ntmps20
    go_wp2
    go_ret
    exact ⟨false, rfl, rfl⟩
  go_enter Tryf.func20, Tryf.ntmps20
  go_wp2
  go_loop [7, 8] (fun t i => ∃ k x : Nat, k ≤ n1 ∧ x ≤ 1048576 ∧ i = .int .i64 k ∧ t = .int .i64 x) (fun _ i => n1 - (intOf i).toNat)
  case atStart => exact ⟨0, n0 + n1, Nat.zero_le _, by omega, rfl, by go_num⟩
  case round =>
    obtain ⟨k, x, hk, hx, rfl, rfl⟩ := hrel
    by_cases hlt : k < n1
    · obtain ⟨s, hs⟩ : ∃ s, ss[k]? = some s := ⟨ss[k]'(by rw [H.out.1]; exact hlt), by simp⟩
      obtain ⟨b, off, ha, hb, x0⟩ := IsQss.at H.out.2.2.2.2.2 hs
      subst ha
      have hsl : s.l ≤ 9223372036854775807 := by have h9 := H.out.2.2.2.2.1 s (List.mem_of_getElem? hs); have := h9.2.1; have := h9.2.2.1; unfold maxLen at this; omega
      clear hs
      by_cases t3 : 1048576 < s.l
      · go_wp2
        go_ret
        exact ⟨false, rfl, rfl⟩
      by_cases t4 : 1048576 < x + s.l
      · go_wp2
        go_ret
        exact ⟨false, rfl, rfl⟩
      go_wp2
      go_round
      case rel => exact ⟨k + 1, x + s.l, by omega, by omega, by go_num, by go_num⟩
      case measure => simp [intOf]; omega
    · obtain rfl : k = n1 := by omega
      by_cases t5 : 1048576 < n2
      · go_wp2
        go_ret
        exact ⟨false, rfl, rfl⟩
      by_cases t6 : 1048576 < x + n2
      · go_wp2
        go_ret
        exact ⟨false, rfl, rfl⟩
      go_wp2
      go_ret
      exact ⟨true, rfl, rfl⟩
set_option maxRecDepth 100000 in
theorem guard25 (w : World) (a0 : Option Addr) (n0 c0 : Nat) (a1 : Option Addr) (n1 c1 : Nat) (ss : List QS) (a2 : Option Addr) (n2 c2 : Nat) (h0 : n0 ≤ 9223372036854775807) (h1 : IsQss w a1 n1 c1 ss) (h2 : n2 ≤ 9223372036854775807) : Calls Tryf.prog 25 #[.slice a0 n0 c0, .slice a1 n1 c1, .slice a2 n2 c2] w (SomeB w) := by
  have m1 : n1 ≤ 9223372036854775807 := by have := h1.2.1; have := h1.2.2.1; unfold maxLen at this; omega
  have H := Lib.hid h1
  clear h1
  by_cases t0 : 1048576 < n0
  · go_enter Tryf.func25, Tryf.ntmps25
    go_wp2
    go_ret
    exact ⟨false, rfl, rfl⟩
  by_cases t1 : 1048576 < n1
  · go_enter Tryf.func25, Tryf.ntmps25
    go_wp2
    go_ret
    exact ⟨false, rfl, rfl⟩
  by_cases t2 : 1048576 < n0 + n1
  · go_enter Tryf.func25, Tryf.ntmps25
    go_wp2
    go_ret
    exact ⟨false, rfl, rfl⟩
  go_enter Tryf.func25, Tryf.ntmps25
  go_wp2
  go_loop [7, 8] (fun t i => ∃ k x : Nat, k ≤ n1 ∧ x ≤ 1048576 ∧ i = .int .i64 k ∧ t = .int .i64 x) (fun _ i => n1 - (intOf i).toNat)
  case atStart => exact ⟨0, n0 + n1, Nat.zero_le _, by omega, rfl, by go_num⟩
  case round =>
    obtain ⟨k, x, hk, hx, rfl, rfl⟩ := hrel
    by_cases hlt : k < n1
    · obtain ⟨s, hs⟩ : ∃ s, ss[k]? = some s := ⟨ss[k]'(by rw [H.out.1]; exact hlt), by simp⟩
      obtain ⟨b, off, ha, hb, x0⟩ := IsQss.at H.out.2.2.2.2.2 hs
      subst ha
      have hsl : s.l ≤ 9223372036854775807 := by have h9 := H.out.2.2.2.2.1 s (List.mem_of_getElem? hs); have := h9.2.1; have := h9.2.2.1; unfold maxLen at this; omega
      clear hs
      by_cases t3 : 1048576 < s.l
      · go_wp2
        go_ret
        exact ⟨false, rfl, rfl⟩
      by_cases t4 : 1048576 < x + s.l
      · go_wp2
        go_ret
        exact ⟨false, rfl, rfl⟩
      go_wp2
      go_round
      case rel => exact ⟨k + 1, x + s.l, by omega, by omega, by go_num, by go_num⟩
      case measure => simp [intOf]; omega
    · obtain rfl : k = n1 := by omega
      by_cases t5 : 1048576 < n2
      · go_wp2
        go_ret
        exact ⟨false, rfl, rfl⟩
      by_cases t6 : 1048576 < x + n2
      · go_wp2
        go_ret
        exact ⟨false, rfl, rfl⟩
      go_wp2
      go_ret
      exact ⟨true, rfl, rfl⟩
theorem nearA_pos (ess : List (List LE)) (es : List LE) (h : ess[0]? = some es) : ∀ n, 0 < n → nearA ess n = hasL es := by
  intro n
  induction n with
  | zero => intro h0; omega
  | succ n ih =>
    intro _
    rcases Nat.eq_zero_or_pos n with h0 | h0
    · subst h0
      exact nearA_one ess es h
    · rw [nearA_succ ess n h0]
      exact ih h0

set_option maxRecDepth 100000 in
set_option maxHeartbeats 6400000 in
theorem law42 (a0 : Option Addr) (n0 c0 : Nat) (zs0 : List QE) (a1 : Option Addr) (n1 c1 : Nat) (ss : List QS) (a2 : Option Addr) (n2 c2 : Nat) (zs2 : List QE) (w : World) (h0 : IsQs w a0 n0 c0 zs0) (h1 : IsQss w a1 n1 c1 ss) (h2 : IsQs w a2 n2 c2 zs2) :
    Calls Tryf.prog 5 #[.slice a0 n0 c0, .slice a1 n1 c1, .slice a2 n2 c2] w fun e w' => e = .returned (.bool true) ∧ Below w.heap.size w w' := by
  have hn0 : n0 ≤ 9223372036854775807 := by have := h0.2.1; have := h0.2.2.1; unfold maxLen at this; omega
  have hn2 : n2 ≤ 9223372036854775807 := by have := h2.2.1; have := h2.2.2.1; unfold maxLen at this; omega
  have G := Lib.hid (guard20 w a0 n0 c0 a1 n1 c1 ss a2 n2 c2 hn0 h1 hn2)
  have C0 := Lib.hid (cost10 w a0 n0 c0 zs0 h0)
  have C2 := Lib.hid (cost10 w a2 n2 c2 zs2 h2)
  have C1 := Lib.hid (cost21 w a1 n1 c1 ss h1)
  have H0 := Lib.hid h0
  have H1 := Lib.hid h1
  have H2 := Lib.hid h2
  clear h0 h1 h2
  go_enter Tryf.func5, Tryf.ntmps5
  go_wp2_with fail
  refine G.out.mono ?_
  rintro e w1 ⟨r, rfl, rfl⟩
  cases r
  · go_wp2_with fail
    go_ret
    exact ⟨rfl, Below.refl _ _⟩
  clear G
  go_wp2_with fail
  refine C0.out.mono ?_
  rintro e w1 ⟨m0, rfl, rfl, hm0, hq0⟩
  go_wp2_with fail
  refine C2.out.mono ?_
  rintro e w1 ⟨m2, rfl, rfl, hm2, hq2⟩
  go_wp2_with fail
  refine C1.out.mono ?_
  rintro e w1 ⟨m1, rfl, rfl, hm1, hq1⟩
  clear C0 C1 C2
  by_cases hm : 16384 < m0 + m2 + m1
  · go_wp2_with fail
    go_ret
    exact ⟨rfl, Below.refl _ _⟩
  have hd0 : decide ((16384 : Int) < (m0 : Int) + (m2 : Int) + (m1 : Int)) = false := by simp; omega
  have s0 : n0 ≤ 16384 := hq0 (by omega)
  have s2 : n2 ≤ 16384 := hq2 (by omega)
  have s1 : n1 ≤ 16384 := (hq1 (by omega)).1
  have SL := Lib.hid (hq1 (by omega)).2
  have A0 := Lib.hid (all11 w a0 n0 c0 zs0 H0.out)
  clear hq0 hq1 hq2
  go_wp2_with fail
  refine A0.out.mono ?_
  rintro e w1 ⟨r, rfl, hb1, ho0⟩
  have B1 := Lib.hid hb1
  have O0' := Lib.hid ho0
  clear hb1 ho0 A0
  cases r
  · go_wp2_with fail
    go_ret
    exact ⟨rfl, B1.out⟩
  have O0 := Lib.hid (O0'.out rfl)
  have A2 := Lib.hid (all11 w1 a2 n2 c2 zs2 (H2.out.below B1.out))
  clear O0'
  go_wp2_with fail
  refine A2.out.mono ?_
  rintro e w2 ⟨r, rfl, hb2, ho2⟩
  have B2 := Lib.hid (B1.out.trans (hb2.mono B1.out.size))
  have O2' := Lib.hid ho2
  clear hb2 ho2 A2 B1
  cases r
  · go_wp2_with fail
    go_ret
    exact ⟨rfl, B2.out⟩
  have O2 := Lib.hid (O2'.out rfl)
  have A1 := Lib.hid (nest22 w2 a1 n1 c1 ss (H1.out.below B2.out))
  clear O2'
  go_wp2_with fail
  refine A1.out.mono ?_
  rintro e w3 ⟨r, rfl, hb3, ho1⟩
  have B3 := Lib.hid (B2.out.trans (hb3.mono B2.out.size))
  have O1' := Lib.hid ho1
  clear hb3 ho1 A1 B2
  cases r
  · go_wp2_with fail
    go_ret
    exact ⟨rfl, B3.out⟩
  have O1 := Lib.hid (O1'.out rfl)
  have hq0 := inQ_getD H0.out
  have hq2 := inQ_getD H2.out
  have M0 := Lib.hid (build12 w3 a0 n0 c0 zs0 (H0.out.below B3.out) s0 O0.out)
  clear O1'
  go_wp2_with fail
  refine M0.out.mono ?_
  rintro e w4 ⟨v0, rfl, hv0, hb4⟩
  obtain ⟨x0, rfl, _, _, _⟩ := hv0.open
  simp only [hq0] at hv0 ⊢
  have B4 := Lib.hid (B3.out.trans (hb4.mono B3.out.size))
  have sw4 := B4.out.size
  have V0 := Lib.hid hv0
  generalize hL0 : (zs0.map QE.le).length = l0 at *
  have B4a := Lib.hid (B4.out.alloc B4.out.size (.cells #[.slice x0 l0 l0] 28))
  have sz4 : (w4.alloc (.cells #[.slice x0 l0 l0] 28)).heap.size = w4.heap.size + 1 := by simp
  have M2 := Lib.hid (build12 (w4.alloc (.cells #[.slice x0 l0 l0] 28)) a2 n2 c2 zs2 (H2.out.below B4a.out) s2 O2.out)
  clear hv0 hb4 M0
  go_wp2_with fail
  refine M2.out.mono ?_
  rintro e w5 ⟨v2, rfl, hv2, hb5⟩
  obtain ⟨x2, rfl, _, _, _⟩ := hv2.open
  simp only [hq2] at hv2 ⊢
  have B5 := Lib.hid (B4a.out.trans (hb5.mono B4a.out.size))
  have V2 := Lib.hid hv2
  generalize hL2 : (zs2.map QE.le).length = l2 at *
  have L5 := Lib.hid ((Blk.new w4 28 #[.slice x0 l0 l0]).under hb5)
  have V05 := Lib.hid (V0.out.keep ((Agree.alloc _ w4 (.cells #[.slice x0 l0 l0] 28) fun b h => h.2).trans (Agree.of_below hb5 fun b h => by have := h.2; rw [sz4]; omega)))
  have s45 := hb5.size
  rw [sz4] at s45
  have B5a := Lib.hid (B5.out.alloc B5.out.size (.cells #[.slice x2 l2 l2] 28))
  have sz5 : (w5.alloc (.cells #[.slice x2 l2 l2] 28)).heap.size = w5.heap.size + 1 := by simp
  have M1 := Lib.hid (bprm23 (w5.alloc (.cells #[.slice x2 l2 l2] 28)) a1 n1 c1 ss (H1.out.below B5a.out) s1 SL.out O1.out)
  clear hv2 hb5 M2 V0 B4a B4 B3
  go_wp2_with fail
  refine M1.out.mono ?_
  rintro e w6 ⟨vs, rfl, hg, hvl, hfs, hb6⟩
  have s56 := hb6.size
  rw [sz5] at s56 hg hfs
  have hgl := hg.lt
  have B6 := Lib.hid (B5a.out.trans (hb6.mono B5a.out.size))
  have hpp : ∀ (i : Nat) (es : List LE), (ss.map fun s => s.zs.map QE.le)[i]? = some es → ∃ s, ss[i]? = some s ∧ es = s.zs.map QE.le ∧ (inQ s.a s.zs).getD [] = es := by
    intro i es hi
    rw [List.getElem?_map] at hi
    obtain ⟨s, hs, rfl⟩ := Option.map_eq_some_iff.1 hi
    exact ⟨s, hs, rfl, inQ_getD (H1.out.2.2.2.2.1 s (List.mem_of_getElem? hs))⟩
  have PS := Lib.hid (show PrmS ((w6.alloc (.cells #[.slice (some ⟨w5.heap.size + 1, 0, none⟩) n1 n1] 62)).alloc (.cells #[] 52)) (w6.heap.size + 1) w4.heap.size w5.heap.size w6.heap.size (w5.heap.size + 1) n1 (.slice x0 l0 l0) (.slice x2 l2 l2) vs (zs0.map QE.le) (zs2.map QE.le) (ss.map fun s => s.zs.map QE.le) from by
    have hc : Blk ((w6.alloc (.cells #[.slice (some ⟨w5.heap.size + 1, 0, none⟩) n1 n1] 62)).alloc (.cells #[] 52)) (w6.heap.size + 1) 52 #[] := by have := Blk.new (w6.alloc (.cells #[.slice (some ⟨w5.heap.size + 1, 0, none⟩) n1 n1] 62)) 52 #[]; simpa using this
    have fr6 : Fr w6 ((w6.alloc (.cells #[.slice (some ⟨w5.heap.size + 1, 0, none⟩) n1 n1] 62)).alloc (.cells #[] 52)) (fun _ => False) := ((Fr.refl w6 _).alloc _).alloc _
    have fr5 : Fr (w5.alloc (.cells #[.slice x2 l2 l2] 28)) ((w6.alloc (.cells #[.slice (some ⟨w5.heap.size + 1, 0, none⟩) n1 n1] 62)).alloc (.cells #[] 52)) (fun _ => False) := ((Fr.of_below hb6 _).alloc _).alloc _
    have fr55 : Fr w5 ((w6.alloc (.cells #[.slice (some ⟨w5.heap.size + 1, 0, none⟩) n1 n1] 62)).alloc (.cells #[] 52)) (fun _ => False) := ((Fr.refl w5 _).alloc _).trans fr5
    have hszW : ((w6.alloc (.cells #[.slice (some ⟨w5.heap.size + 1, 0, none⟩) n1 n1] 62)).alloc (.cells #[] 52)).heap.size = w6.heap.size + 2 := by simp
    refine ⟨hc, fr55.blk L5.out (fun h => h), fr5.blk (Blk.new w5 28 #[.slice x2 l2 l2]) (fun h => h), (Blk.new w6 62 #[.slice (some ⟨w5.heap.size + 1, 0, none⟩) n1 n1]).alloc _, fr6.blk hg (fun h => h), ⟨inQ a0 zs0, ?_, hq0, fun _ => ?_⟩, ⟨inQ a2 zs2, ?_, hq2, fun _ => ?_⟩, ?_, hvl, by rw [List.length_map]; exact H1.out.1, ⟨by omega, by omega, by omega, by omega⟩, ⟨by omega, by omega, by omega, by omega, by omega, by omega⟩⟩
    · exact (V05.out.fodV.keep (fr55.agree fun b hb => ⟨by have := hb.2; omega, fun h => h⟩)).sub fun b hb => ⟨by have := hb.2; rw [hszW]; omega, by have := hb.2; omega⟩
    · exact (V05.out.keep (fr55.agree fun b hb => ⟨by have := hb.2; omega, fun h => h⟩)).sub fun b hb => ⟨by have := hb.2; rw [hszW]; omega, by have := hb.2; omega⟩
    · exact (V2.out.fodV.keep (fr55.agree fun b hb => ⟨hb.2, fun h => h⟩)).sub fun b hb => ⟨by have := hb.2; rw [hszW]; omega, by have h7 := hb.1; rw [sz4] at h7; have := hb.2; omega⟩
    · exact (V2.out.keep (fr55.agree fun b hb => ⟨hb.2, fun h => h⟩)).sub fun b hb => ⟨by have := hb.2; rw [hszW]; omega, by have h7 := hb.1; rw [sz4] at h7; have := hb.2; omega⟩
    · intro i v es h1 h2
      obtain ⟨s, hs, _, he⟩ := hpp i es h2
      have hf := hfs i v s h1 hs
      refine ⟨inQ s.a s.zs, (hf.fodV.keep (fr6.agree fun b hb => ⟨hb.2, fun h => h⟩)).sub fun b hb => ⟨by have := hb.2; rw [hszW]; omega, by have := hb.1; have := hb.2; omega⟩, he, fun _ => (hf.keep (fr6.agree fun b hb => ⟨hb.2, fun h => h⟩)).sub fun b hb => ⟨by have := hb.2; rw [hszW]; omega, by have := hb.1; have := hb.2; omega⟩⟩)
  have B7 := Lib.hid ((B6.out.alloc B6.out.size (.cells #[.slice (some ⟨w5.heap.size + 1, 0, none⟩) n1 n1] 62)).alloc (by have := B6.out.size; simp; omega) (.cells #[] 52))
  have OLS : Hid (∀ es ∈ (ss.map fun s => s.zs.map QE.le), ∀ e ∈ es, OkL e) := Lib.hid (fun es hes e he => by
    obtain ⟨s, hs, rfl⟩ := List.mem_map.1 hes
    obtain ⟨z, hz, rfl⟩ := List.mem_map.1 he
    exact (O1.out s hs z hz).le)
  have OL2 : Hid (∀ e ∈ zs2.map QE.le, OkL e) := Lib.hid (fun e he => by obtain ⟨z, hz, rfl⟩ := List.mem_map.1 he; exact (O2.out z hz).le)
  have KP := Lib.hid (prm24 _ _ _ _ _ _ _ _ _ _ _ _ _ PS.out s1 OLS.out OL2.out .nilIface)
  have szw := B5.out.size
  clear hg hfs hb6 M1 V05 V2 L5 B6 B5a B5 hpp
  have hlp : w4.heap.size < w5.heap.size := by omega
  go_wp2_with fail
  refine KP.out.mono ?_
  rintro e w7 ⟨rfl, ⟨rv', vs', hps⟩, hfr⟩
  have PS7 := Lib.hid hps
  have BB := Lib.hid (hfr.below B7.out B7.out.size (by rintro b (h | h | h | h) <;> omega))
  clear hps hfr KP PS B7
  have HES : Hid (∀ (i : Nat) (s : QS), ss[i]? = some s → (ss.map fun s => s.zs.map QE.le)[i]? = some (s.zs.map QE.le)) := Lib.hid (fun i s h => by rw [List.getElem?_map, h]; rfl)
  have HESN : Hid ((ss.map fun s => s.zs.map QE.le).length = n1) := Lib.hid (by rw [List.length_map]; exact H1.out.1)
  generalize (ss.map fun s => s.zs.map QE.le) = ess at *
  obtain ⟨nr, hnr⟩ : ∃ nr, nr = (nearA ess n1 || hasL (zs2.map QE.le)) := ⟨_, rfl⟩
  obtain ⟨bt, hbt⟩ : ∃ bt, bt = betA ess n1 := ⟨_, rfl⟩
  rw [← hnr, ← hbt] at PS7
  rw [hasL_map] at hnr
  have HNR := Lib.hid hnr
  have HBT := Lib.hid hbt
  clear hnr hbt
  have E2 := Lib.hid (has14 w7 a2 n2 c2 zs2 (H2.out.below BB.out))
  generalize (zs2.any fun z => z.kind != 1) = r2 at *
  obtain ⟨ra, rc, rfl, _⟩ := PS7.out.fr.open
  cases r2
  · by_cases hz : n1 = 0
    · have hnr : nr = false := by rw [HNR.out, hz]; simp [nearA]
      subst hnr
      have hz0 : ¬ 0 < n1 := by omega
      have HZ := Lib.hid hz
      clear hz
      go_wp2_with fail
      refine E2.out.mono ?_
      rintro e w8 ⟨rfl, rfl⟩
      go_wp2_with fail
      go_loop [12, 13] (fun b i => ∃ k : Nat, 1 ≤ k ∧ (k ≤ n1 ∨ k = 1) ∧ i = .int .i64 k ∧ b = .bool (betA ess k)) (fun _ i => n1 - (intOf i).toNat)
      case atStart => exact ⟨1, Nat.le_refl _, .inr rfl, rfl, by rw [betA_one]⟩
      case round =>
        obtain ⟨k, hk1, hk, rfl, rfl⟩ := hrel
        by_cases hlt : k < n1
        · obtain ⟨s, hs⟩ : ∃ s, ss[k]? = some s := ⟨ss[k]'(by rw [H1.out.1]; exact hlt), by simp⟩
          obtain ⟨b, off, ha, hb, x0⟩ := IsQss.at (H1.out.2.2.2.2.2.below BB.out) hs
          first | subst ha | (injection ha with ha; injection ha with e1 e2; have e1' := e1.symm; have e2' := e2.symm; clear e1 e2; subst e1' e2')
          have hbw : b < w7.heap.size := Nat.lt_of_lt_of_le hb BB.out.size
          have K := Lib.hid (has14 w7 s.a s.l s.c s.zs ((H1.out.2.2.2.2.1 s (List.mem_of_getElem? hs)).below BB.out))
          have HB := Lib.hid (betA_succ ess k (by omega) _ (HES.out k s hs))
          rw [hasL_map] at HB
          clear hs
          generalize (s.zs.any fun z => z.kind != 1) = rs at *
          cases rs
          · rw [Bool.or_false] at HB
            go_wp2_with fail
            refine K.out.mono ?_
            rintro e w8 ⟨rfl, rfl⟩
            go_wp2_with fail
            go_round
            case rel => exact ⟨k + 1, by omega, by omega, by go_num, by rw [HB.out]⟩
            case measure => simp [intOf]; omega
          · rw [Bool.or_true] at HB
            go_wp2_with fail
            refine K.out.mono ?_
            rintro e w8 ⟨rfl, rfl⟩
            go_wp2_with fail
            go_round
            case rel => exact ⟨k + 1, by omega, by omega, by go_num, by rw [HB.out]⟩
            case measure => simp [intOf]; omega
        · have hbk : betA ess k = bt := by
            rw [HBT.out]
            rcases Nat.lt_or_ge n1 k with h | h
            · obtain rfl : k = 1 := by omega
              obtain rfl : n1 = 0 := by omega
              rw [betA_one]
              simp [betA]
            · obtain rfl : k = n1 := by omega
              rfl
          rw [hbk]
          have hkk : ¬ (k : Int) < (n1 : Int) := by omega
          have q0 := PS7.out.bp.cell 0
          have q1 := PS7.out.bl.cell 0
          simp at q0 q1
          have ql0 := PS7.out.bp.lt
          have ql1 := PS7.out.bl.lt
          clear hbk E2
          go_wp2_with fail
          refine (slot15 w7 _ a0 n0 c0 zs0 false (by simpa [fix] using PS7.out.fl.fodR) (H0.out.below BB.out) s0 O0.out).mono ?_
          rintro e w8 ⟨rfl, hb8⟩
          have PS8 := Lib.hid (PS7.out.below hb8)
          have BB8 := Lib.hid (BB.out.trans (hb8.mono BB.out.size))
          have q2 := PS8.out.br.cell 0
          simp at q2
          have ql2 := PS8.out.br.lt
          clear hb8 q0 q1 ql0 ql1
          go_wp2_with fail
          refine (slot15 w8 _ a2 n2 c2 zs2 false PS8.out.fr.fodR (H2.out.below BB8.out) s2 O2.out).mono ?_
          rintro e w9 ⟨rfl, hb9⟩
          have PS9 := Lib.hid (PS8.out.below hb9)
          have BB9 := Lib.hid (BB8.out.trans (hb9.mono BB8.out.size))
          have q3 := PS9.out.bp.cell 0
          simp at q3
          have ql3 := PS9.out.bp.lt
          clear hb9 q2 ql2
          go_wp2_with fail
          go_loopw [14] (fun i wr => ∃ j : Nat, j ≤ n1 ∧ i = .int .i64 j ∧ Hid (Below w9.heap.size w9 wr)) (fun i _ => n1 - (intOf i).toNat)
          case atStart => exact ⟨0, Nat.zero_le _, rfl, Lib.hid (Below.refl _ _)⟩
          case round =>
            clear q3 ql3
            obtain ⟨j, hj, rfl, hbel⟩ := hrel
            obtain ⟨wo, hwo⟩ : ∃ wo, wo = wr := ⟨_, rfl⟩
            subst hwo
            have PR := Lib.hid (PS9.out.below hbel.out)
            have BR := Lib.hid (BB9.out.trans (hbel.out.mono BB9.out.size))
            have q4 := PR.out.bp.cell 0
            simp at q4
            have ql4 := PR.out.bp.lt
            by_cases hjt : j < n1
            · obtain ⟨s, hs⟩ : ∃ s, ss[j]? = some s := ⟨ss[j]'(by rw [H1.out.1]; exact hjt), by simp⟩
              obtain ⟨v, hv⟩ : ∃ v, vs'[j]? = some v := ⟨vs'[j]'(by rw [PR.out.ln]; exact hjt), by simp⟩
              obtain ⟨b, off, ha, hb, x0⟩ := IsQss.at (H1.out.2.2.2.2.2.below BR.out) hs
              first | subst ha | (injection ha with ha; injection ha with e1 e2; have e1' := e1.symm; have e2' := e2.symm; clear e1 e2; subst e1' e2')
              have hbw : b < wo.heap.size := Nat.lt_of_lt_of_le hb BR.out.size
              have hm := List.mem_of_getElem? hs
              have hfa := fixP_at false bt ess j _ (HES.out j s hs)
              obtain ⟨want, hw⟩ : ∃ want, want = (if j = 0 then false else bt) := ⟨_, rfl⟩
              rw [← hw] at hfa
              have hfn := PR.out.fs j v _ hv hfa
              have g0 := pcell PR.out.bg hv (j := 0) (by omega)
              simp [pcs] at g0
              have gl := PR.out.bg.lt
              have KS := Lib.hid (slot15 wo.drew v s.a s.l s.c s.zs want (show FodR wo.drew v _ from hfn.fodR) (show IsQs wo.drew s.a s.l s.c s.zs from (H1.out.2.2.2.2.1 s hm).below BR.out.drew) (SL.out s hm) (O1.out s hm))
              obtain ⟨va, vc, rfl, _⟩ := hfn.open
              clear hs hv hfa hfn
              by_cases hj0 : j = 0
              · rw [if_pos hj0] at hw
                subst hw
                have hjz : ((j : Int) == 0) = true := by simpa using hj0
                have HJ := Lib.hid hj0
                clear hj0
                go_wp2_with fail
                refine wp_region_tail 10 (by kernel_rfl) (by kernel_rfl) ?_
                simp only [List.take_succ_cons, List.take_zero, List.drop_succ_cons, List.drop_zero]
                repeat still_step
                refine wpStill_nil ?_
                go_wp2_with fail
                refine KS.out.mono ?_
                rintro e w10 ⟨rfl, hb10⟩
                have BN := Lib.hid (hbel.out.drew.trans (hb10.mono hbel.out.size))
                clear hb10 KS
                go_wp2_with fail
                go_roundw
                case rel => exact ⟨j + 1, by omega, by go_num, BN⟩
                case measure => simp [intOf]; omega
              · rw [if_neg hj0] at hw
                subst hw
                have hjz : ((j : Int) == 0) = false := by simpa using hj0
                go_wp2_with fail
                refine wp_region_tail 10 (by kernel_rfl) (by kernel_rfl) ?_
                simp only [List.take_succ_cons, List.take_zero, List.drop_succ_cons, List.drop_zero]
                repeat still_step
                refine wpStill_nil ?_
                go_wp2_with fail
                refine KS.out.mono ?_
                rintro e w10 ⟨rfl, hb10⟩
                have BN := Lib.hid (hbel.out.drew.trans (hb10.mono hbel.out.size))
                clear hb10 KS
                go_wp2_with fail
                go_roundw
                case rel => exact ⟨j + 1, by omega, by go_num, BN⟩
                case measure => simp [intOf]; omega
            · obtain rfl : j = n1 := by omega
              go_wp2_with fail
              go_ret
              exact ⟨rfl, BR.out⟩
    · have hz1 : 0 < n1 := by omega
      obtain ⟨s0', hs0⟩ : ∃ s, ss[0]? = some s := ⟨ss[0]'(by rw [H1.out.1]; exact hz1), by simp⟩
      obtain ⟨b0, off0, ha0, hb0, y0⟩ := IsQss.at (H1.out.2.2.2.2.2.below BB.out) hs0
      subst ha0
      have hb0w : b0 < w7.heap.size := Nat.lt_of_lt_of_le hb0 BB.out.size
      have E0 := Lib.hid (has14 w7 s0'.a s0'.l s0'.c s0'.zs ((H1.out.2.2.2.2.1 s0' (List.mem_of_getElem? hs0)).below BB.out))
      have hnr : (s0'.zs.any fun z => z.kind != 1) = nr := by rw [HNR.out, Bool.or_false, nearA_pos ess _ (HES.out 0 s0' hs0) n1 hz1, hasL_map]
      rw [hnr] at E0
      simp only [Nat.add_zero] at y0
      clear hnr hs0
      go_wp2_with fail
      refine E2.out.mono ?_
      rintro e w8 ⟨rfl, rfl⟩
      go_wp2_with fail
      refine E0.out.mono ?_
      rintro e w8 ⟨rfl, rfl⟩
      clear E0 y0
      go_wp2_with fail
      go_loop [12, 13] (fun b i => ∃ k : Nat, 1 ≤ k ∧ (k ≤ n1 ∨ k = 1) ∧ i = .int .i64 k ∧ b = .bool (betA ess k)) (fun _ i => n1 - (intOf i).toNat)
      case atStart => exact ⟨1, Nat.le_refl _, .inr rfl, rfl, by rw [betA_one]⟩
      case round =>
        obtain ⟨k, hk1, hk, rfl, rfl⟩ := hrel
        by_cases hlt : k < n1
        · obtain ⟨s, hs⟩ : ∃ s, ss[k]? = some s := ⟨ss[k]'(by rw [H1.out.1]; exact hlt), by simp⟩
          obtain ⟨b, off, ha, hb, x0⟩ := IsQss.at (H1.out.2.2.2.2.2.below BB.out) hs
          first | subst ha | (injection ha with ha; injection ha with e1 e2; have e1' := e1.symm; have e2' := e2.symm; clear e1 e2; subst e1' e2')
          have hbw : b < w7.heap.size := Nat.lt_of_lt_of_le hb BB.out.size
          have K := Lib.hid (has14 w7 s.a s.l s.c s.zs ((H1.out.2.2.2.2.1 s (List.mem_of_getElem? hs)).below BB.out))
          have HB := Lib.hid (betA_succ ess k (by omega) _ (HES.out k s hs))
          rw [hasL_map] at HB
          clear hs
          generalize (s.zs.any fun z => z.kind != 1) = rs at *
          cases rs
          · rw [Bool.or_false] at HB
            go_wp2_with fail
            refine K.out.mono ?_
            rintro e w8 ⟨rfl, rfl⟩
            go_wp2_with fail
            go_round
            case rel => exact ⟨k + 1, by omega, by omega, by go_num, by rw [HB.out]⟩
            case measure => simp [intOf]; omega
          · rw [Bool.or_true] at HB
            go_wp2_with fail
            refine K.out.mono ?_
            rintro e w8 ⟨rfl, rfl⟩
            go_wp2_with fail
            go_round
            case rel => exact ⟨k + 1, by omega, by omega, by go_num, by rw [HB.out]⟩
            case measure => simp [intOf]; omega
        · have hbk : betA ess k = bt := by
            rw [HBT.out]
            rcases Nat.lt_or_ge n1 k with h | h
            · obtain rfl : k = 1 := by omega
              obtain rfl : n1 = 0 := by omega
              rw [betA_one]
              simp [betA]
            · obtain rfl : k = n1 := by omega
              rfl
          rw [hbk]
          have hkk : ¬ (k : Int) < (n1 : Int) := by omega
          have q0 := PS7.out.bp.cell 0
          have q1 := PS7.out.bl.cell 0
          simp at q0 q1
          have ql0 := PS7.out.bp.lt
          have ql1 := PS7.out.bl.lt
          clear hbk E2
          go_wp2_with fail
          refine (slot15 w7 _ a0 n0 c0 zs0 false (by simpa [fix] using PS7.out.fl.fodR) (H0.out.below BB.out) s0 O0.out).mono ?_
          rintro e w8 ⟨rfl, hb8⟩
          have PS8 := Lib.hid (PS7.out.below hb8)
          have BB8 := Lib.hid (BB.out.trans (hb8.mono BB.out.size))
          have q2 := PS8.out.br.cell 0
          simp at q2
          have ql2 := PS8.out.br.lt
          clear hb8 q0 q1 ql0 ql1
          go_wp2_with fail
          refine (slot15 w8 _ a2 n2 c2 zs2 nr PS8.out.fr.fodR (H2.out.below BB8.out) s2 O2.out).mono ?_
          rintro e w9 ⟨rfl, hb9⟩
          have PS9 := Lib.hid (PS8.out.below hb9)
          have BB9 := Lib.hid (BB8.out.trans (hb9.mono BB8.out.size))
          have q3 := PS9.out.bp.cell 0
          simp at q3
          have ql3 := PS9.out.bp.lt
          clear hb9 q2 ql2
          go_wp2_with fail
          go_loopw [14] (fun i wr => ∃ j : Nat, j ≤ n1 ∧ i = .int .i64 j ∧ Hid (Below w9.heap.size w9 wr)) (fun i _ => n1 - (intOf i).toNat)
          case atStart => exact ⟨0, Nat.zero_le _, rfl, Lib.hid (Below.refl _ _)⟩
          case round =>
            clear q3 ql3
            obtain ⟨j, hj, rfl, hbel⟩ := hrel
            obtain ⟨wo, hwo⟩ : ∃ wo, wo = wr := ⟨_, rfl⟩
            subst hwo
            have PR := Lib.hid (PS9.out.below hbel.out)
            have BR := Lib.hid (BB9.out.trans (hbel.out.mono BB9.out.size))
            have q4 := PR.out.bp.cell 0
            simp at q4
            have ql4 := PR.out.bp.lt
            by_cases hjt : j < n1
            · obtain ⟨s, hs⟩ : ∃ s, ss[j]? = some s := ⟨ss[j]'(by rw [H1.out.1]; exact hjt), by simp⟩
              obtain ⟨v, hv⟩ : ∃ v, vs'[j]? = some v := ⟨vs'[j]'(by rw [PR.out.ln]; exact hjt), by simp⟩
              obtain ⟨b, off, ha, hb, x0⟩ := IsQss.at (H1.out.2.2.2.2.2.below BR.out) hs
              first | subst ha | (injection ha with ha; injection ha with e1 e2; have e1' := e1.symm; have e2' := e2.symm; clear e1 e2; subst e1' e2')
              have hbw : b < wo.heap.size := Nat.lt_of_lt_of_le hb BR.out.size
              have hm := List.mem_of_getElem? hs
              have hfa := fixP_at nr bt ess j _ (HES.out j s hs)
              obtain ⟨want, hw⟩ : ∃ want, want = (if j = 0 then nr else bt) := ⟨_, rfl⟩
              rw [← hw] at hfa
              have hfn := PR.out.fs j v _ hv hfa
              have g0 := pcell PR.out.bg hv (j := 0) (by omega)
              simp [pcs] at g0
              have gl := PR.out.bg.lt
              have KS := Lib.hid (slot15 wo.drew v s.a s.l s.c s.zs want (show FodR wo.drew v _ from hfn.fodR) (show IsQs wo.drew s.a s.l s.c s.zs from (H1.out.2.2.2.2.1 s hm).below BR.out.drew) (SL.out s hm) (O1.out s hm))
              obtain ⟨va, vc, rfl, _⟩ := hfn.open
              clear hs hv hfa hfn
              by_cases hj0 : j = 0
              · rw [if_pos hj0] at hw
                subst hw
                have hjz : ((j : Int) == 0) = true := by simpa using hj0
                have HJ := Lib.hid hj0
                clear hj0
                go_wp2_with fail
                refine wp_region_tail 10 (by kernel_rfl) (by kernel_rfl) ?_
                simp only [List.take_succ_cons, List.take_zero, List.drop_succ_cons, List.drop_zero]
                repeat still_step
                refine wpStill_nil ?_
                go_wp2_with fail
                refine KS.out.mono ?_
                rintro e w10 ⟨rfl, hb10⟩
                have BN := Lib.hid (hbel.out.drew.trans (hb10.mono hbel.out.size))
                clear hb10 KS
                go_wp2_with fail
                go_roundw
                case rel => exact ⟨j + 1, by omega, by go_num, BN⟩
                case measure => simp [intOf]; omega
              · rw [if_neg hj0] at hw
                subst hw
                have hjz : ((j : Int) == 0) = false := by simpa using hj0
                go_wp2_with fail
                refine wp_region_tail 10 (by kernel_rfl) (by kernel_rfl) ?_
                simp only [List.take_succ_cons, List.take_zero, List.drop_succ_cons, List.drop_zero]
                repeat still_step
                refine wpStill_nil ?_
                go_wp2_with fail
                refine KS.out.mono ?_
                rintro e w10 ⟨rfl, hb10⟩
                have BN := Lib.hid (hbel.out.drew.trans (hb10.mono hbel.out.size))
                clear hb10 KS
                go_wp2_with fail
                go_roundw
                case rel => exact ⟨j + 1, by omega, by go_num, BN⟩
                case measure => simp [intOf]; omega
            · obtain rfl : j = n1 := by omega
              go_wp2_with fail
              go_ret
              exact ⟨rfl, BR.out⟩
  · have hnr : nr = true := by rw [HNR.out, Bool.or_true]
    subst hnr
    go_wp2_with fail
    refine E2.out.mono ?_
    rintro e w8 ⟨rfl, rfl⟩
    go_wp2_with fail
    go_loop [12, 13] (fun b i => ∃ k : Nat, 1 ≤ k ∧ (k ≤ n1 ∨ k = 1) ∧ i = .int .i64 k ∧ b = .bool (betA ess k)) (fun _ i => n1 - (intOf i).toNat)
    case atStart => exact ⟨1, Nat.le_refl _, .inr rfl, rfl, by rw [betA_one]⟩
    case round =>
      obtain ⟨k, hk1, hk, rfl, rfl⟩ := hrel
      by_cases hlt : k < n1
      · obtain ⟨s, hs⟩ : ∃ s, ss[k]? = some s := ⟨ss[k]'(by rw [H1.out.1]; exact hlt), by simp⟩
        obtain ⟨b, off, ha, hb, x0⟩ := IsQss.at (H1.out.2.2.2.2.2.below BB.out) hs
        first | subst ha | (injection ha with ha; injection ha with e1 e2; have e1' := e1.symm; have e2' := e2.symm; clear e1 e2; subst e1' e2')
        have hbw : b < w7.heap.size := Nat.lt_of_lt_of_le hb BB.out.size
        have K := Lib.hid (has14 w7 s.a s.l s.c s.zs ((H1.out.2.2.2.2.1 s (List.mem_of_getElem? hs)).below BB.out))
        have HB := Lib.hid (betA_succ ess k (by omega) _ (HES.out k s hs))
        rw [hasL_map] at HB
        clear hs
        generalize (s.zs.any fun z => z.kind != 1) = rs at *
        cases rs
        · rw [Bool.or_false] at HB
          go_wp2_with fail
          refine K.out.mono ?_
          rintro e w8 ⟨rfl, rfl⟩
          go_wp2_with fail
          go_round
          case rel => exact ⟨k + 1, by omega, by omega, by go_num, by rw [HB.out]⟩
          case measure => simp [intOf]; omega
        · rw [Bool.or_true] at HB
          go_wp2_with fail
          refine K.out.mono ?_
          rintro e w8 ⟨rfl, rfl⟩
          go_wp2_with fail
          go_round
          case rel => exact ⟨k + 1, by omega, by omega, by go_num, by rw [HB.out]⟩
          case measure => simp [intOf]; omega
      · have hbk : betA ess k = bt := by
          rw [HBT.out]
          rcases Nat.lt_or_ge n1 k with h | h
          · obtain rfl : k = 1 := by omega
            obtain rfl : n1 = 0 := by omega
            rw [betA_one]
            simp [betA]
          · obtain rfl : k = n1 := by omega
            rfl
        rw [hbk]
        have hkk : ¬ (k : Int) < (n1 : Int) := by omega
        have q0 := PS7.out.bp.cell 0
        have q1 := PS7.out.bl.cell 0
        simp at q0 q1
        have ql0 := PS7.out.bp.lt
        have ql1 := PS7.out.bl.lt
        clear hbk E2
        go_wp2_with fail
        refine (slot15 w7 _ a0 n0 c0 zs0 false (by simpa [fix] using PS7.out.fl.fodR) (H0.out.below BB.out) s0 O0.out).mono ?_
        rintro e w8 ⟨rfl, hb8⟩
        have PS8 := Lib.hid (PS7.out.below hb8)
        have BB8 := Lib.hid (BB.out.trans (hb8.mono BB.out.size))
        have q2 := PS8.out.br.cell 0
        simp at q2
        have ql2 := PS8.out.br.lt
        clear hb8 q0 q1 ql0 ql1
        go_wp2_with fail
        refine (slot15 w8 _ a2 n2 c2 zs2 true PS8.out.fr.fodR (H2.out.below BB8.out) s2 O2.out).mono ?_
        rintro e w9 ⟨rfl, hb9⟩
        have PS9 := Lib.hid (PS8.out.below hb9)
        have BB9 := Lib.hid (BB8.out.trans (hb9.mono BB8.out.size))
        have q3 := PS9.out.bp.cell 0
        simp at q3
        have ql3 := PS9.out.bp.lt
        clear hb9 q2 ql2
        go_wp2_with fail
        go_loopw [14] (fun i wr => ∃ j : Nat, j ≤ n1 ∧ i = .int .i64 j ∧ Hid (Below w9.heap.size w9 wr)) (fun i _ => n1 - (intOf i).toNat)
        case atStart => exact ⟨0, Nat.zero_le _, rfl, Lib.hid (Below.refl _ _)⟩
        case round =>
          clear q3 ql3
          obtain ⟨j, hj, rfl, hbel⟩ := hrel
          obtain ⟨wo, hwo⟩ : ∃ wo, wo = wr := ⟨_, rfl⟩
          subst hwo
          have PR := Lib.hid (PS9.out.below hbel.out)
          have BR := Lib.hid (BB9.out.trans (hbel.out.mono BB9.out.size))
          have q4 := PR.out.bp.cell 0
          simp at q4
          have ql4 := PR.out.bp.lt
          by_cases hjt : j < n1
          · obtain ⟨s, hs⟩ : ∃ s, ss[j]? = some s := ⟨ss[j]'(by rw [H1.out.1]; exact hjt), by simp⟩
            obtain ⟨v, hv⟩ : ∃ v, vs'[j]? = some v := ⟨vs'[j]'(by rw [PR.out.ln]; exact hjt), by simp⟩
            obtain ⟨b, off, ha, hb, x0⟩ := IsQss.at (H1.out.2.2.2.2.2.below BR.out) hs
            first | subst ha | (injection ha with ha; injection ha with e1 e2; have e1' := e1.symm; have e2' := e2.symm; clear e1 e2; subst e1' e2')
            have hbw : b < wo.heap.size := Nat.lt_of_lt_of_le hb BR.out.size
            have hm := List.mem_of_getElem? hs
            have hfa := fixP_at true bt ess j _ (HES.out j s hs)
            obtain ⟨want, hw⟩ : ∃ want, want = (if j = 0 then true else bt) := ⟨_, rfl⟩
            rw [← hw] at hfa
            have hfn := PR.out.fs j v _ hv hfa
            have g0 := pcell PR.out.bg hv (j := 0) (by omega)
            simp [pcs] at g0
            have gl := PR.out.bg.lt
            have KS := Lib.hid (slot15 wo.drew v s.a s.l s.c s.zs want (show FodR wo.drew v _ from hfn.fodR) (show IsQs wo.drew s.a s.l s.c s.zs from (H1.out.2.2.2.2.1 s hm).below BR.out.drew) (SL.out s hm) (O1.out s hm))
            obtain ⟨va, vc, rfl, _⟩ := hfn.open
            clear hs hv hfa hfn
            by_cases hj0 : j = 0
            · rw [if_pos hj0] at hw
              subst hw
              have hjz : ((j : Int) == 0) = true := by simpa using hj0
              have HJ := Lib.hid hj0
              clear hj0
              go_wp2_with fail
              refine wp_region_tail 10 (by kernel_rfl) (by kernel_rfl) ?_
              simp only [List.take_succ_cons, List.take_zero, List.drop_succ_cons, List.drop_zero]
              repeat still_step
              refine wpStill_nil ?_
              go_wp2_with fail
              refine KS.out.mono ?_
              rintro e w10 ⟨rfl, hb10⟩
              have BN := Lib.hid (hbel.out.drew.trans (hb10.mono hbel.out.size))
              clear hb10 KS
              go_wp2_with fail
              go_roundw
              case rel => exact ⟨j + 1, by omega, by go_num, BN⟩
              case measure => simp [intOf]; omega
            · rw [if_neg hj0] at hw
              subst hw
              have hjz : ((j : Int) == 0) = false := by simpa using hj0
              go_wp2_with fail
              refine wp_region_tail 10 (by kernel_rfl) (by kernel_rfl) ?_
              simp only [List.take_succ_cons, List.take_zero, List.drop_succ_cons, List.drop_zero]
              repeat still_step
              refine wpStill_nil ?_
              go_wp2_with fail
              refine KS.out.mono ?_
              rintro e w10 ⟨rfl, hb10⟩
              have BN := Lib.hid (hbel.out.drew.trans (hb10.mono hbel.out.size))
              clear hb10 KS
              go_wp2_with fail
              go_roundw
              case rel => exact ⟨j + 1, by omega, by go_num, BN⟩
              case measure => simp [intOf]; omega
          · obtain rfl : j = n1 := by omega
            go_wp2_with fail
            go_ret
            exact ⟨rfl, BR.out⟩
end Go.Proofs.YtlaghkppjdphnaaFmt
