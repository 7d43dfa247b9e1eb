/- The walk of the law on what Arguments does. -/
import Derived.Test.YtlaghkppjdphnaaFmtArc
namespace Go.Proofs.YtlaghkppjdphnaaFmt
open Go.RowKit
set_option linter.unusedVariables false

set_option maxRecDepth 100000 in
set_option maxHeartbeats 12800000 in
theorem law48 (a0 : Option Addr) (n0 c0 : Nat) (zs0 : List QE) (a1 : Option Addr) (n1 c1 : Nat) (ss : List QS) (a2 : Option Addr) (n2 c2 : Nat) (ts : List QS) (a3 : Option Addr) (n3 c3 : Nat) (zs3 : List QE) (w : World) (h0 : IsQs w a0 n0 c0 zs0) (h1 : IsQss w a1 n1 c1 ss) (h2 : IsQss w a2 n2 c2 ts) (h3 : IsQs w a3 n3 c3 zs3) :
    Calls Tryf.prog 8 #[.slice a0 n0 c0, .slice a1 n1 c1, .slice a2 n2 c2, .slice a3 n3 c3] w fun e w' => e = .returned (.bool true) ∧ Below w.heap.size w w' := by
  have hn0 : n0 ≤ 9223372036854775807 := by have := h0.2.1; have := h0.2.2.1; unfold maxLen at this; omega
  have hn3 : n3 ≤ 9223372036854775807 := by have := h3.2.1; have := h3.2.2.1; unfold maxLen at this; omega
  have G := Lib.hid (guard31 w a0 n0 c0 a1 n1 c1 ss a2 n2 c2 ts a3 n3 c3 hn0 h1 h2 hn3)
  have SM := Lib.hid (small27 w a0 n0 c0 zs0 a1 n1 c1 ss a2 n2 c2 ts a3 n3 c3 zs3 h0 h1 h2 h3)
  have OK := Lib.hid (ok28 w a0 n0 c0 zs0 a1 n1 c1 ss a2 n2 c2 ts a3 n3 c3 zs3 h0 h1 h2 h3)
  have H0 := Lib.hid h0
  have H1 := Lib.hid h1
  have H2 := Lib.hid h2
  have H3 := Lib.hid h3
  clear h0 h1 h2 h3
  go_enter Tryf.func8, Tryf.ntmps8
  go_wp2_with fail
  refine G.out.mono ?_
  rintro e w1 ⟨r, rfl, rfl⟩
  cases r
  · go_wp2_with fail
    go_ret
    exact ⟨rfl, Below.refl _ _⟩
  clear G
  go_wp2_with fail
  refine SM.out.mono ?_
  rintro e w1 ⟨r, rfl, rfl, hsm⟩
  have HSM := Lib.hid hsm
  clear SM hsm
  cases r
  · go_wp2_with fail
    go_ret
    exact ⟨rfl, Below.refl _ _⟩
  obtain ⟨s0, s3, s12, sl1, sl2⟩ := HSM.out rfl
  have SL1 := Lib.hid sl1
  have SL2 := Lib.hid sl2
  have s1 : n1 ≤ 16384 := by omega
  have s2 : n2 ≤ 16384 := by omega
  clear HSM sl1 sl2
  go_wp2_with fail
  refine OK.out.mono ?_
  rintro e w3 ⟨r, rfl, hb3, ho⟩
  have B3 := Lib.hid hb3
  have HOK := Lib.hid ho
  clear hb3 ho OK
  cases r
  · go_wp2_with fail
    go_ret
    exact ⟨rfl, B3.out⟩
  obtain ⟨o0, o3, o1, o2⟩ := HOK.out rfl
  have O0 := Lib.hid o0
  have O1 := Lib.hid o1
  have O2 := Lib.hid o2
  have O3 := Lib.hid o3
  clear HOK o0 o1 o2 o3
  have hq0 := inQ_getD H0.out
  have hq3 := inQ_getD H3.out
  have M0 := Lib.hid (build12 w3 a0 n0 c0 zs0 (H0.out.below B3.out) s0 O0.out)
  go_wp2_with fail
  refine M0.out.mono ?_
  rintro e w4 ⟨v0, rfl, hv0, hb4⟩
  obtain ⟨x0, rfl, _, _, _⟩ := hv0.open
  simp only [hq0] at hv0 ⊢
  have B4 := Lib.hid (B3.out.trans (hb4.mono B3.out.size))
  have sw4 := B4.out.size
  have V0 := Lib.hid hv0
  generalize hL0 : (zs0.map QE.le).length = l0 at *
  have B4a := Lib.hid (B4.out.alloc B4.out.size (.cells #[.slice x0 l0 l0] 28))
  have sz4 : (w4.alloc (.cells #[.slice x0 l0 l0] 28)).heap.size = w4.heap.size + 1 := by simp
  have M3 := Lib.hid (build12 (w4.alloc (.cells #[.slice x0 l0 l0] 28)) a3 n3 c3 zs3 (H3.out.below B4a.out) s3 O3.out)
  clear hv0 hb4 M0
  go_wp2_with fail
  refine M3.out.mono ?_
  rintro e w5 ⟨v3, rfl, hv3, hb5⟩
  obtain ⟨x3, rfl, _, _, _⟩ := hv3.open
  simp only [hq3] at hv3 ⊢
  have B5 := Lib.hid (B4a.out.trans (hb5.mono B4a.out.size))
  generalize hL3 : (zs3.map QE.le).length = l3 at *
  have L5 := Lib.hid ((Blk.new w4 28 #[.slice x0 l0 l0]).under hb5)
  have V05 := Lib.hid ((V0.out.keep ((Agree.alloc _ w4 (.cells #[.slice x0 l0 l0] 28) fun b h => h.2).trans (Agree.of_below hb5 fun b h => by have := h.2; rw [sz4]; omega))).sub (T := fun b => b < w4.heap.size) fun b h => h.2)
  have V3 := Lib.hid (hv3.sub (T := fun b => w4.heap.size + 1 ≤ b ∧ b < w5.heap.size) fun b h => ⟨by have h7 := h.1; rw [sz4] at h7; exact h7, h.2⟩)
  have s45 := hb5.size
  rw [sz4] at s45
  have B5a := Lib.hid (B5.out.alloc B5.out.size (.cells #[.slice x3 l3 l3] 28))
  have sz5 : (w5.alloc (.cells #[.slice x3 l3 l3] 28)).heap.size = w5.heap.size + 1 := by simp
  have M1 := Lib.hid (bargs29 (w5.alloc (.cells #[.slice x3 l3 l3] 28)) a1 n1 c1 ss a2 n2 c2 ts (H1.out.below B5a.out) (H2.out.below B5a.out) s1 s2 SL1.out SL2.out O1.out O2.out)
  clear hv3 hb5 M3 V0 B4a B4 B3
  go_wp2_with fail
  refine M1.out.mono ?_
  rintro e w6 ⟨ng, lns, vs, us, rfl, hmd, hng, hb6⟩
  rw [sz5] at hmd hng hb6
  simp only [sz5]
  have s56 := hb6.size
  rw [sz5] at s56
  have MD := Lib.hid hmd
  have hngl := hmd.n.lt
  have B6 := Lib.hid (B5a.out.trans (hb6.mono (by have := B5.out.size; omega)))
  have PS := Lib.hid (argS_of hq0 hq3 (fun s hs => inQ_getD (H1.out.2.2.2.2.1 s hs)) (fun s hs => inQ_getD (H2.out.2.2.2.2.1 s hs)) H1.out.1 H2.out.1 s45 L5.out V05.out V3.out hmd hng hb6)
  have OLS : Hid (∀ es ∈ (ss.map fun s => s.zs.map QE.le) ++ (ts.map fun s => s.zs.map QE.le), ∀ e ∈ es, OkL e) := Lib.hid (fun es hes e he => by
    rcases List.mem_append.1 hes with hes | hes
    · obtain ⟨s, hs, rfl⟩ := List.mem_map.1 hes
      obtain ⟨z, hz, rfl⟩ := List.mem_map.1 he
      exact (O1.out s hs z hz).le
    · obtain ⟨s, hs, rfl⟩ := List.mem_map.1 hes
      obtain ⟨z, hz, rfl⟩ := List.mem_map.1 he
      exact (O2.out s hs z hz).le)
  have OL3 : Hid (∀ e ∈ zs3.map QE.le, OkL e) := Lib.hid (fun e he => by obtain ⟨z, hz, rfl⟩ := List.mem_map.1 he; exact (O3.out z hz).le)
  have KP := Lib.hid (arg30 _ _ _ _ _ _ _ _ _ _ _ _ _ _ _ _ _ _ _ _ PS.out s1 s2 OLS.out OL3.out .nilIface)
  obtain ⟨C78, hC78⟩ : ∃ C : Array Value, C = #[.slice (some ⟨w5.heap.size + 1 + 1 + 1, 0, none⟩) n1 n1, .slice (some ⟨ng, 0, none⟩) n2 n2, .slice (some ⟨w5.heap.size + 1 + 1 + 1 + 1, 0, none⟩) n1 n1] := ⟨_, rfl⟩
  have B7 := Lib.hid ((B6.out.alloc B6.out.size (.cells #[.slice (some ⟨w5.heap.size + 1 + 1 + 1, 0, none⟩) n1 n1, .slice (some ⟨ng, 0, none⟩) n2 n2, .slice (some ⟨w5.heap.size + 1 + 1 + 1 + 1, 0, none⟩) n1 n1] 78)).alloc (by have := B6.out.size; simp; omega) (.cells #[] 52))
  have szw := B5.out.size
  have LT := Lib.hid (((hmd.l).alloc (.cells #[.slice (some ⟨w5.heap.size + 1 + 1 + 1, 0, none⟩) n1 n1, .slice (some ⟨ng, 0, none⟩) n2 n2, .slice (some ⟨w5.heap.size + 1 + 1 + 1 + 1, 0, none⟩) n1 n1] 78)).alloc (.cells #[] 52))
  have RL := Lib.hid hmd.rl
  clear hmd hb6 M1 V05 V3 L5 B6 B5a B5 hC78 C78 MD
  have hlp : w4.heap.size < w5.heap.size := by omega
  go_wp2_with fail
  refine KP.out.mono ?_
  rintro e w7 ⟨rfl, ⟨rv', vs', us', hps⟩, hfr⟩
  have PS7 := Lib.hid hps
  have hxb : ∀ b, (b = w4.heap.size ∨ b = w5.heap.size ∨ b = ng ∨ b ∈ lns) → w.heap.size ≤ b := fun b h => by
    rcases h with h | h | h | h
    · omega
    · omega
    · omega
    · have := RL.out b h; omega
  have BB := Lib.hid (hfr.below B7.out B7.out.size hxb)
  have LT7 := Lib.hid (hfr.blk LT.out (fun h => by
    rcases h with h | h | h | h
    · omega
    · omega
    · omega
    · have := RL.out _ h; omega))
  clear hps hfr KP PS B7 hxb LT
  have hln : ∀ (i ln : Nat), lns[i]? = some ln → (lns.flatMap litRow)[i]? = some (.pointer (some ⟨ln, 0, none⟩)) := fun i ln h => by
    have := flat_at litRow 1 (fun _ => rfl) lns i 0 ln h (by omega)
    rw [Nat.mul_one, Nat.add_zero] at this
    rw [this]
    rfl
  have HLN := Lib.hid hln
  clear hln
  have HES : Hid (∀ (i : Nat) (s : QS), ss[i]? = some s → ((ss.map fun s => s.zs.map QE.le) ++ (ts.map fun s => s.zs.map QE.le))[i]? = some (s.zs.map QE.le)) := Lib.hid (fun i s h => by rw [List.getElem?_append_left (by rw [List.length_map]; exact (List.getElem?_eq_some_iff.1 h).1), List.getElem?_map, h]; rfl)
  have HET : Hid (∀ (i : Nat) (s : QS), ts[i]? = some s → ((ss.map fun s => s.zs.map QE.le) ++ (ts.map fun s => s.zs.map QE.le))[n1 + i]? = some (s.zs.map QE.le)) := Lib.hid (fun i s h => by rw [List.getElem?_append_right (by rw [List.length_map, H1.out.1]; omega), List.length_map, H1.out.1, Nat.add_sub_cancel_left, List.getElem?_map, h]; rfl)
  have HESN : Hid (((ss.map fun s => s.zs.map QE.le) ++ (ts.map fun s => s.zs.map QE.le)).length = n1 + n2) := Lib.hid (by rw [List.length_append, List.length_map, List.length_map, H1.out.1, H2.out.1])
  generalize ((ss.map fun s => s.zs.map QE.le) ++ (ts.map fun s => s.zs.map QE.le)) = ess at *
  obtain ⟨nr, hnr⟩ : ∃ nr, nr = (nearA ess (n1 + n2) || hasL (zs3.map QE.le)) := ⟨_, rfl⟩
  obtain ⟨bt, hbt⟩ : ∃ bt, bt = betA ess (n1 + n2) := ⟨_, rfl⟩
  rw [← hnr, ← hbt] at PS7
  rw [hasL_map] at hnr
  have HNR := Lib.hid hnr
  have HBT := Lib.hid hbt
  clear hnr hbt
  have E2 := Lib.hid (has14 w7 a3 n3 c3 zs3 (H3.out.below BB.out))
  generalize (zs3.any fun z => z.kind != 1) = r2 at *
  obtain ⟨ra, rc, rfl, _⟩ := PS7.out.fr.open
  go_wp2_with fail
  refine E2.out.mono ?_
  rintro e w8 ⟨rfl, rfl⟩
  clear E2
  go_wp2_with fail
  go_loop [14, 15, 16] (fun a b i => ∃ k : Nat, k ≤ n1 + n2 ∧ i = .int .i64 k ∧ b = .bool (betA ess k) ∧ a = .bool (nearA ess k || r2)) (fun _ _ i => (n1 + n2) - (intOf i).toNat)
  case atStart => exact ⟨0, Nat.zero_le _, rfl, by simp [betA], by simp [nearA]⟩
  case round =>
    obtain ⟨k, hk, rfl, rfl, rfl⟩ := hrel
    by_cases hlt : k < n1
    · have hlt2 : (k : Int) < (n1 : Int) + (n2 : Int) := by omega
      obtain ⟨s, hs⟩ : ∃ s, ss[k]? = some s := ⟨ss[k]'(by rw [H1.out.1]; omega), by simp⟩
      obtain ⟨b, off, ha, hb, x0⟩ := IsQss.at (H1.out.2.2.2.2.2.below BB.out) hs
      subst ha
      have hbw : b < w7.heap.size := Nat.lt_of_lt_of_le hb BB.out.size
      have K := Lib.hid (has14 w7 s.a s.l s.c s.zs ((H1.out.2.2.2.2.1 s (List.mem_of_getElem? hs)).below BB.out))
      have HES' := Lib.hid (HES.out k s hs)
      clear hs
      generalize hrs : (s.zs.any fun z => z.kind != 1) = rs at *
      have HRS := Lib.hid hrs
      clear hrs
      by_cases hk0 : k = 0
      · have HK := Lib.hid hk0
        have hz : ((k : Int) == 0) = true := by rw [beq_iff_eq]; omega
        have HN : Hid (nearA ess (k + 1) = rs) := Lib.hid (by rw [hk0]; have h9 := HES'.out; rw [hk0] at h9; rw [nearA_one ess _ h9, hasL_map, HRS.out])
        have HB : Hid (betA ess (k + 1) = false) := Lib.hid (by rw [hk0]; exact betA_one ess)
        have hn0' : nearA ess k = false := by rw [hk0]; simp [nearA]
        have hb0' : betA ess k = false := by rw [hk0]; simp [betA]
        rw [hn0', hb0', Bool.false_or]
        clear hk0 hn0' hb0'
        cases rs
        · go_wp2_with fail
          refine K.out.mono ?_
          rintro e w8 ⟨rfl, rfl⟩
          go_wp2_with fail
          go_round
          case rel => exact ⟨k + 1, by omega, by go_num, by rw [HB.out], by rw [HN.out, Bool.false_or]⟩
          case measure => simp [intOf]; omega
        · go_wp2_with fail
          refine K.out.mono ?_
          rintro e w8 ⟨rfl, rfl⟩
          go_wp2_with fail
          go_round
          case rel => exact ⟨k + 1, by omega, by go_num, by rw [HB.out], by rw [HN.out, Bool.true_or]⟩
          case measure => simp [intOf]; omega
      · have hz : ((k : Int) == 0) = false := by rw [beq_eq_false_iff_ne]; omega
        have HN : Hid (nearA ess (k + 1) = nearA ess k) := Lib.hid (nearA_succ ess _ (by omega))
        have HB : Hid (betA ess (k + 1) = (betA ess k || rs)) := Lib.hid (by rw [betA_succ ess _ (by omega) _ HES'.out, hasL_map, HRS.out])
        have HK := Lib.hid hk0
        clear hk0
        cases rs
        · rw [Bool.or_false] at HB
          go_wp2_with fail
          refine K.out.mono ?_
          rintro e w8 ⟨rfl, rfl⟩
          go_wp2_with fail
          go_round
          case rel => exact ⟨k + 1, by omega, by go_num, by rw [HB.out], by rw [HN.out]⟩
          case measure => simp [intOf]; omega
        · rw [Bool.or_true] at HB
          go_wp2_with fail
          refine K.out.mono ?_
          rintro e w8 ⟨rfl, rfl⟩
          go_wp2_with fail
          go_round
          case rel => exact ⟨k + 1, by omega, by go_num, by rw [HB.out], by rw [HN.out]⟩
          case measure => simp [intOf]; omega
    · by_cases hlt2 : k < n1 + n2
      · obtain ⟨i, rfl⟩ : ∃ i, k = n1 + i := ⟨k - n1, by omega⟩
        have hki : ((n1 : Int) + (i : Int) - (n1 : Int)) = (i : Int) := by omega
        have hlt3 : (n1 : Int) + (i : Int) < (n1 : Int) + (n2 : Int) := by omega
        have hlt4 : ¬ ((n1 : Int) + (i : Int) < (n1 : Int)) := by omega
        obtain ⟨s, hs⟩ : ∃ s, ts[i]? = some s := ⟨ts[i]'(by rw [H2.out.1]; omega), by simp⟩
        obtain ⟨b, off, ha, hb, x0⟩ := IsQss.at (H2.out.2.2.2.2.2.below BB.out) hs
        subst ha
        have hbw : b < w7.heap.size := Nat.lt_of_lt_of_le hb BB.out.size
        have K := Lib.hid (has14 w7 s.a s.l s.c s.zs ((H2.out.2.2.2.2.1 s (List.mem_of_getElem? hs)).below BB.out))
        have HES' := Lib.hid (HET.out i s hs)
        clear hs
        generalize hrs : (s.zs.any fun z => z.kind != 1) = rs at *
        have HRS := Lib.hid hrs
        clear hrs
        by_cases hk0 : (n1 + i) = 0
        · have HK := Lib.hid hk0
          have hz : ((n1 : Int) + (i : Int) == 0) = true := by rw [beq_iff_eq]; omega
          have HN : Hid (nearA ess ((n1 + i) + 1) = rs) := Lib.hid (by rw [hk0]; have h9 := HES'.out; rw [hk0] at h9; rw [nearA_one ess _ h9, hasL_map, HRS.out])
          have HB : Hid (betA ess ((n1 + i) + 1) = false) := Lib.hid (by rw [hk0]; exact betA_one ess)
          have hn0' : nearA ess (n1 + i) = false := by rw [hk0]; simp [nearA]
          have hb0' : betA ess (n1 + i) = false := by rw [hk0]; simp [betA]
          rw [hn0', hb0', Bool.false_or]
          clear hk0 hn0' hb0'
          cases rs
          · go_wp2_with fail
            refine K.out.mono ?_
            rintro e w8 ⟨rfl, rfl⟩
            go_wp2_with fail
            go_round
            case rel => exact ⟨(n1 + i) + 1, by omega, by go_num, by rw [HB.out], by rw [HN.out, Bool.false_or]⟩
            case measure => simp [intOf]; omega
          · go_wp2_with fail
            refine K.out.mono ?_
            rintro e w8 ⟨rfl, rfl⟩
            go_wp2_with fail
            go_round
            case rel => exact ⟨(n1 + i) + 1, by omega, by go_num, by rw [HB.out], by rw [HN.out, Bool.true_or]⟩
            case measure => simp [intOf]; omega
        · have hz : ((n1 : Int) + (i : Int) == 0) = false := by rw [beq_eq_false_iff_ne]; omega
          have HN : Hid (nearA ess ((n1 + i) + 1) = nearA ess (n1 + i)) := Lib.hid (nearA_succ ess _ (by omega))
          have HB : Hid (betA ess ((n1 + i) + 1) = (betA ess (n1 + i) || rs)) := Lib.hid (by rw [betA_succ ess _ (by omega) _ HES'.out, hasL_map, HRS.out])
          have HK := Lib.hid hk0
          clear hk0
          cases rs
          · rw [Bool.or_false] at HB
            go_wp2_with fail
            refine K.out.mono ?_
            rintro e w8 ⟨rfl, rfl⟩
            go_wp2_with fail
            go_round
            case rel => exact ⟨(n1 + i) + 1, by omega, by go_num, by rw [HB.out], by rw [HN.out]⟩
            case measure => simp [intOf]; omega
          · rw [Bool.or_true] at HB
            go_wp2_with fail
            refine K.out.mono ?_
            rintro e w8 ⟨rfl, rfl⟩
            go_wp2_with fail
            go_round
            case rel => exact ⟨(n1 + i) + 1, by omega, by go_num, by rw [HB.out], by rw [HN.out]⟩
            case measure => simp [intOf]; omega
      · obtain rfl : k = n1 + n2 := by omega
        rw [← HBT.out, ← HNR.out]
        have q0 := PS7.out.ba.cell 0
        have q1 := PS7.out.ba.cell 1
        have q2 := PS7.out.bl.cell 0
        simp at q0 q1 q2
        have ql0 := PS7.out.ba.lt
        have ql1 := PS7.out.bl.lt
        go_wp2_with fail
        refine (slot15 w7 _ a0 n0 c0 zs0 false (by simpa [fix] using PS7.out.fl.fodR) (H0.out.below BB.out) s0 O0.out).mono ?_
        rintro e w8 ⟨rfl, hb8⟩
        have PS8 := Lib.hid (PS7.out.below hb8)
        have BB8 := Lib.hid (BB.out.trans (hb8.mono BB.out.size))
        have LT8 := Lib.hid (LT7.out.under hb8)
        have q3 := PS8.out.br.cell 0
        simp at q3
        have ql3 := PS8.out.br.lt
        clear hb8 q0 q1 q2 ql0 ql1 LT7 PS7 BB
        go_wp2_with fail
        refine (slot15 w8 _ a3 n3 c3 zs3 nr PS8.out.fr.fodR (H3.out.below BB8.out) s3 O3.out).mono ?_
        rintro e w9 ⟨rfl, hb9⟩
        have PS9 := Lib.hid (PS8.out.below hb9)
        have BB9 := Lib.hid (BB8.out.trans (hb9.mono BB8.out.size))
        have LT9 := Lib.hid (LT8.out.under hb9)
        clear hb9 q3 ql3 PS8 BB8 LT8
        go_wp2_with fail
        go_loopw [18] (fun i wr => ∃ j : Nat, j ≤ n1 + n2 ∧ i = .int .i64 j ∧ Hid (Below w9.heap.size w9 wr)) (fun i _ => (n1 + n2) - (intOf i).toNat)
        case atStart => exact ⟨0, Nat.zero_le _, rfl, Lib.hid (Below.refl _ _)⟩
        case round =>
          obtain ⟨j, hj, rfl, hbel⟩ := hrel
          obtain ⟨wo, hwo⟩ : ∃ wo, wo = wr := ⟨_, rfl⟩
          subst hwo
          have PR := Lib.hid (PS9.out.below hbel.out)
          have BR := Lib.hid (BB9.out.trans (hbel.out.mono BB9.out.size))
          have LR := Lib.hid (LT9.out.under hbel.out)
          have ql4 := PR.out.ba.lt
          by_cases hjt : j < n1
          · have hlt2 : (j : Int) < (n1 : Int) + (n2 : Int) := by omega
            obtain ⟨s, hs⟩ : ∃ s, ss[j]? = some s := ⟨ss[j]'(by rw [H1.out.1]; omega), by simp⟩
            obtain ⟨b, off, ha, hb, x0⟩ := IsQss.at (H1.out.2.2.2.2.2.below BR.out) hs
            subst ha
            have hbw : b < wo.heap.size := Nat.lt_of_lt_of_le hb BR.out.size
            have hm := List.mem_of_getElem? hs
            have hfa := fixP_at nr bt ess j _ (HES.out j s hs)
            obtain ⟨want, hw⟩ : ∃ want, want = (if j = 0 then nr else bt) := ⟨_, rfl⟩
            rw [← hw] at hfa
            rw [← List.getElem?_take_of_lt hjt] at hfa
            obtain ⟨ln, hln⟩ : ∃ v, lns[j]? = some v := ⟨lns[j]'(by rw [PR.out.l1]; exact hjt), by simp⟩
            obtain ⟨v, hv⟩ : ∃ v, vs'[j]? = some v := ⟨vs'[j]'(by rw [PR.out.l2]; exact hjt), by simp⟩
            have hfn := PR.out.fp j v _ hv hfa
            have q5 := PR.out.ba.cell 2
            simp at q5
            have g0 := LR.out.cell j
            rw [List.getElem?_toArray, HLN.out j ln hln] at g0
            have gl := LR.out.lt
            have hlit := PR.out.lit j ln v hln hv
            have g1 := hlit.cell 0
            simp [nullC] at g1
            have gl1 := hlit.lt
            have KS := Lib.hid (slot15 wo.drew v s.a s.l s.c s.zs want (show FodR wo.drew v _ from hfn.fodR) (show IsQs wo.drew s.a s.l s.c s.zs from (H1.out.2.2.2.2.1 s hm).below BR.out.drew) (SL1.out s hm) (O1.out s hm))
            obtain ⟨va, vc, rfl, _⟩ := hfn.open
            clear hs hv hfa hfn hln hlit
            by_cases hj0 : j = 0
            · rw [if_pos hj0] at hw
              subst hw
              have hjz : ((j : Int) == 0) = true := by rw [beq_iff_eq]; omega
              have HJ := Lib.hid hj0
              clear hj0
              go_wp2_with fail
              refine wp_region_tail 14 (by kernel_rfl) (by kernel_rfl) ?_
              simp only [List.take_succ_cons, List.take_zero, List.drop_succ_cons, List.drop_zero]
              repeat still_step
              refine wpStill_nil ?_
              go_wp2_with fail
              refine KS.out.mono ?_
              rintro e w10 ⟨rfl, hb10⟩
              have BN := Lib.hid (hbel.out.drew.trans (hb10.mono hbel.out.size))
              clear hb10 KS
              go_wp2_with fail
              go_roundw
              case rel => exact ⟨j + 1, by omega, by go_num, BN⟩
              case measure => simp [intOf]; omega
            · rw [if_neg hj0] at hw
              subst hw
              have hjz : ((j : Int) == 0) = false := by rw [beq_eq_false_iff_ne]; omega
              have HJ := Lib.hid hj0
              clear hj0
              go_wp2_with fail
              refine wp_region_tail 14 (by kernel_rfl) (by kernel_rfl) ?_
              simp only [List.take_succ_cons, List.take_zero, List.drop_succ_cons, List.drop_zero]
              repeat still_step
              refine wpStill_nil ?_
              go_wp2_with fail
              refine KS.out.mono ?_
              rintro e w10 ⟨rfl, hb10⟩
              have BN := Lib.hid (hbel.out.drew.trans (hb10.mono hbel.out.size))
              clear hb10 KS
              go_wp2_with fail
              go_roundw
              case rel => exact ⟨j + 1, by omega, by go_num, BN⟩
              case measure => simp [intOf]; omega
          · by_cases hjt2 : j < n1 + n2
            · obtain ⟨i, rfl⟩ : ∃ i, j = n1 + i := ⟨j - n1, by omega⟩
              have hki : ((n1 : Int) + (i : Int) - (n1 : Int)) = (i : Int) := by omega
              have hwi : IntKind.i64.wrap (i : Int) = (i : Int) := Go.IntWalk.i64_in _ (by omega)
              have hin : i < n2 := by omega
              have hlt3 : (n1 : Int) + (i : Int) < (n1 : Int) + (n2 : Int) := by omega
              have hlt4 : ¬ ((n1 : Int) + (i : Int) < (n1 : Int)) := by omega
              obtain ⟨s, hs⟩ : ∃ s, ts[i]? = some s := ⟨ts[i]'(by rw [H2.out.1]; omega), by simp⟩
              obtain ⟨b, off, ha, hb, x0⟩ := IsQss.at (H2.out.2.2.2.2.2.below BR.out) hs
              subst ha
              have hbw : b < wo.heap.size := Nat.lt_of_lt_of_le hb BR.out.size
              have hm := List.mem_of_getElem? hs
              have hfa := fixP_at nr bt ess (n1 + i) _ (HET.out i s hs)
              obtain ⟨want, hw⟩ : ∃ want, want = (if (n1 + i) = 0 then nr else bt) := ⟨_, rfl⟩
              rw [← hw] at hfa
              rw [← List.getElem?_drop] at hfa
              obtain ⟨⟨v, mn⟩, hv⟩ : ∃ v, us'[i]? = some v := ⟨us'[i]'(by rw [PR.out.l4]; omega), by simp⟩
              have hfn := PR.out.fn i (v, mn) _ hv hfa
              simp only at hfn
              have q5 := PR.out.ba.cell 1
              simp at q5
              have g0 : wo.cell? ⟨ng, i * 5, none⟩ = some v := by rw [PR.out.bn.cell, List.getElem?_toArray]; exact cellsN_at us' i 0 (v, mn) hv (by omega)
              have gl := PR.out.bn.lt
              have KS := Lib.hid (slot15 wo.drew v s.a s.l s.c s.zs want (show FodR wo.drew v _ from hfn.fodR) (show IsQs wo.drew s.a s.l s.c s.zs from (H2.out.2.2.2.2.1 s hm).below BR.out.drew) (SL2.out s hm) (O2.out s hm))
              obtain ⟨va, vc, rfl, _⟩ := hfn.open
              clear hs hv hfa hfn
              by_cases hj0 : (n1 + i) = 0
              · rw [if_pos hj0] at hw
                subst hw
                have hjz : ((n1 : Int) + (i : Int) == 0) = true := by rw [beq_iff_eq]; omega
                have HJ := Lib.hid hj0
                clear hj0
                go_wp2_with fail
                refine wp_region_tail 18 (by kernel_rfl) (by kernel_rfl) ?_
                simp only [List.take_succ_cons, List.take_zero, List.drop_succ_cons, List.drop_zero]
                repeat still_step
                (try simp only [hki, hwi])
                repeat still_step
                (try simp only [hki, hwi])
                repeat still_step
                refine wpStill_nil ?_
                go_wp2_with fail
                refine KS.out.mono ?_
                rintro e w10 ⟨rfl, hb10⟩
                have BN := Lib.hid (hbel.out.drew.trans (hb10.mono hbel.out.size))
                clear hb10 KS
                go_wp2_with fail
                go_roundw
                case rel => exact ⟨(n1 + i) + 1, by omega, by go_num, BN⟩
                case measure => simp [intOf]; omega
              · rw [if_neg hj0] at hw
                subst hw
                have hjz : ((n1 : Int) + (i : Int) == 0) = false := by rw [beq_eq_false_iff_ne]; omega
                have HJ := Lib.hid hj0
                clear hj0
                go_wp2_with fail
                refine wp_region_tail 18 (by kernel_rfl) (by kernel_rfl) ?_
                simp only [List.take_succ_cons, List.take_zero, List.drop_succ_cons, List.drop_zero]
                repeat still_step
                (try simp only [hki, hwi])
                repeat still_step
                (try simp only [hki, hwi])
                repeat still_step
                refine wpStill_nil ?_
                go_wp2_with fail
                refine KS.out.mono ?_
                rintro e w10 ⟨rfl, hb10⟩
                have BN := Lib.hid (hbel.out.drew.trans (hb10.mono hbel.out.size))
                clear hb10 KS
                go_wp2_with fail
                go_roundw
                case rel => exact ⟨(n1 + i) + 1, by omega, by go_num, BN⟩
                case measure => simp [intOf]; omega
            · obtain rfl : j = n1 + n2 := by omega
              go_wp2_with fail
              go_ret
              exact ⟨rfl, BR.out⟩
end Go.Proofs.YtlaghkppjdphnaaFmt
