/- The walk of the law that Arguments agrees with Parameters. -/
import Derived.Test.YtlaghkppjdphnaaFmtArc
import Derived.Test.YtlaghkppjdphnaaFmtCpy
import Derived.OwnWalk
namespace Go.Proofs.YtlaghkppjdphnaaFmt
open Go.RowKit
set_option linter.unusedVariables false

theorem own_blk {w : World} {base e size g n : Nat} {xs : List Value} (h : w.ownsRow base e size (.slice (some ⟨g, 0, none⟩) n n) n xs) : Blk w g e xs.toArray := by
  obtain ⟨hl, h⟩ := h
  rcases h with ⟨h, _⟩ | ⟨g', cap, cur, hv, hb, hh, h1, h2, h3, h4⟩
  · cases h
  · injection hv with hv hn hc
    obtain rfl : cap = n := hc.symm
    injection hv with hv
    obtain rfl : g' = g := by injection hv with hv; exact hv.symm
    unfold Blk
    rw [hh]
    congr 2
    rw [List.take_of_length_le (by simp [h3])] at h4
    rw [← h4]
theorem own_made {w : World} {e size n : Nat} {Z : Array Value} (hz : Z.size = n * size) (hn : n ≤ 65536) : (w.alloc (.cells Z e)).ownsRow w.heap.size e size (.slice (some ⟨w.heap.size, 0, none⟩) 0 n) 0 [] :=
  ⟨by simp, .inr ⟨w.heap.size, n, Z, rfl, Nat.le_refl _, Blk.new w e Z, Nat.zero_le _, by unfold maxLen; omega, hz, by simp⟩⟩
theorem infS : (Tryf.prog.info? 22).map (fun i => (i.zero, i.size, i.bytes)) = some (some (.slice none 0 0), 1, 24) := by kernel_rfl
theorem prmS_of {w4 w5 w6 : World} {a0 : Option Addr} {zs0 : List QE} {a3 : Option Addr} {zs3 : List QE} {n : Nat} {ss : List QS} {vs : List Value} {lv rv : Value} (hq0 : (inQ a0 zs0).getD [] = zs0.map QE.le) (hq3 : (inQ a3 zs3).getD [] = zs3.map QE.le) (hqs : ∀ s ∈ ss, (inQ s.a s.zs).getD [] = s.zs.map QE.le)
    (hl : ss.length = n) (hs : w4.heap.size + 1 ≤ w5.heap.size) (L5 : Blk w5 w4.heap.size 28 #[lv]) (V0 : FodC w5 (fun b => b < w4.heap.size) lv (inQ a0 zs0)) (V3 : FodC w5 (fun b => w4.heap.size + 1 ≤ b ∧ b < w5.heap.size) rv (inQ a3 zs3)) (hg : Blk w6 (w5.heap.size + 1) 69 (cellsP vs).toArray) (hvl : vs.length = n)
    (hfs : ∀ (i : Nat) (v : Value) (s : QS), vs[i]? = some v → ss[i]? = some s → FodC w6 (fun b => w5.heap.size + 1 < b ∧ b < w6.heap.size) v (inQ s.a s.zs)) (hb : Below (w5.heap.size + 1) (w5.alloc (.cells #[rv] 28)) w6) :
    PrmS ((w6.alloc (.cells #[.slice (some ⟨w5.heap.size + 1, 0, none⟩) n n] 62)).alloc (.cells #[] 52)) (w6.heap.size + 1) w4.heap.size w5.heap.size w6.heap.size (w5.heap.size + 1) n lv rv vs (zs0.map QE.le) (zs3.map QE.le) (ss.map fun s => s.zs.map QE.le) := by
  have hc : Blk ((w6.alloc (.cells #[.slice (some ⟨w5.heap.size + 1, 0, none⟩) n n] 62)).alloc (.cells #[] 52)) (w6.heap.size + 1) 52 #[] := by have := Blk.new (w6.alloc (.cells #[.slice (some ⟨w5.heap.size + 1, 0, none⟩) n n] 62)) 52 #[]; simpa using this
  have fr6 : Fr w6 ((w6.alloc (.cells #[.slice (some ⟨w5.heap.size + 1, 0, none⟩) n n] 62)).alloc (.cells #[] 52)) (fun _ => False) := ((Fr.refl w6 _).alloc _).alloc _
  have e5 : (w5.alloc (.cells #[rv] 28)).heap.size = w5.heap.size + 1 := by simp
  have fr5 : Fr (w5.alloc (.cells #[rv] 28)) ((w6.alloc (.cells #[.slice (some ⟨w5.heap.size + 1, 0, none⟩) n n] 62)).alloc (.cells #[] 52)) (fun _ => False) := ((Fr.of_below (by rw [e5]; exact hb) _).alloc _).alloc _
  have fr55 : Fr w5 ((w6.alloc (.cells #[.slice (some ⟨w5.heap.size + 1, 0, none⟩) n n] 62)).alloc (.cells #[] 52)) (fun _ => False) := ((Fr.refl w5 _).alloc _).trans fr5
  have hszW : ((w6.alloc (.cells #[.slice (some ⟨w5.heap.size + 1, 0, none⟩) n n] 62)).alloc (.cells #[] 52)).heap.size = w6.heap.size + 2 := by simp
  have hgl := hg.lt
  refine ⟨hc, fr55.blk L5 (fun h => h), fr5.blk (Blk.new w5 28 #[rv]) (fun h => h), (Blk.new w6 62 #[.slice (some ⟨w5.heap.size + 1, 0, none⟩) n n]).alloc _, fr6.blk hg (fun h => h), ⟨inQ a0 zs0, ?_, hq0, fun _ => ?_⟩, ⟨inQ a3 zs3, ?_, hq3, fun _ => ?_⟩, ?_, hvl, by rw [List.length_map]; exact hl, ⟨by omega, by omega, by omega, by omega⟩, ⟨by omega, by omega, by omega, by omega, by omega, by omega⟩⟩
  · exact (V0.fodV.keep (fr55.agree fun b hb => ⟨by have : b < w4.heap.size := hb; omega, fun h => h⟩)).sub fun b hb => ⟨by have : b < w4.heap.size := hb; rw [hszW]; omega, by have : b < w4.heap.size := hb; omega⟩
  · exact (V0.keep (fr55.agree fun b hb => ⟨by have : b < w4.heap.size := hb; omega, fun h => h⟩)).sub fun b hb => ⟨by have : b < w4.heap.size := hb; rw [hszW]; omega, by have : b < w4.heap.size := hb; omega⟩
  · exact (V3.fodV.keep (fr55.agree fun b hb => ⟨hb.2, fun h => h⟩)).sub fun b hb => ⟨by have := hb.2; rw [hszW]; omega, by have h7 := hb.1; have := hb.2; omega⟩
  · exact (V3.keep (fr55.agree fun b hb => ⟨hb.2, fun h => h⟩)).sub fun b hb => ⟨by have := hb.2; rw [hszW]; omega, by have h7 := hb.1; have := hb.2; omega⟩
  · intro i v es h1 h2
    rw [List.getElem?_map] at h2
    obtain ⟨s, hs, rfl⟩ := Option.map_eq_some_iff.1 h2
    have hf := hfs i v s h1 hs
    exact ⟨inQ s.a s.zs, (hf.fodV.keep (fr6.agree fun b hb => ⟨hb.2, fun h => h⟩)).sub fun b hb => ⟨by have := hb.2; rw [hszW]; omega, by have := hb.1; have := hb.2; omega⟩, hqs s (List.mem_of_getElem? hs), fun _ => (hf.keep (fr6.agree fun b hb => ⟨hb.2, fun h => h⟩)).sub fun b hb => ⟨by have := hb.2; rw [hszW]; omega, by have := hb.1; have := hb.2; omega⟩⟩

set_option maxRecDepth 100000 in
set_option maxHeartbeats 25600000 in
theorem law45 (a0 : Option Addr) (n0 c0 : Nat) (zs0 : List QE) (a1 : Option Addr) (n1 c1 : Nat) (ss : List QS) (a2 : Option Addr) (n2 c2 : Nat) (ts : List QS) (a3 : Option Addr) (n3 c3 : Nat) (zs3 : List QE) (w : World) (h0 : IsQs w a0 n0 c0 zs0) (h1 : IsQss w a1 n1 c1 ss) (h2 : IsQss w a2 n2 c2 ts) (h3 : IsQs w a3 n3 c3 zs3) :
    Calls Tryf.prog 7 #[.slice a0 n0 c0, .slice a1 n1 c1, .slice a2 n2 c2, .slice a3 n3 c3] w fun e w' => e = .returned (.bool true) ∧ Below w.heap.size w w' := by
  have hn0 : n0 ≤ 9223372036854775807 := by have := h0.2.1; have := h0.2.2.1; unfold maxLen at this; omega
  have hn3 : n3 ≤ 9223372036854775807 := by have := h3.2.1; have := h3.2.2.1; unfold maxLen at this; omega
  have G := Lib.hid (guard26 w a0 n0 c0 a1 n1 c1 ss a2 n2 c2 ts a3 n3 c3 hn0 h1 h2 hn3)
  have SM := Lib.hid (small27 w a0 n0 c0 zs0 a1 n1 c1 ss a2 n2 c2 ts a3 n3 c3 zs3 h0 h1 h2 h3)
  have OK := Lib.hid (ok28 w a0 n0 c0 zs0 a1 n1 c1 ss a2 n2 c2 ts a3 n3 c3 zs3 h0 h1 h2 h3)
  have H0 := Lib.hid h0
  have H1 := Lib.hid h1
  have H2 := Lib.hid h2
  have H3 := Lib.hid h3
  clear h0 h1 h2 h3
  have hmS : n1 + n2 ≤ 16384 → ∀ W, (Instr.makeSlice 58 (.int .i64 0) (.int .i64 ((n1 : Int) + (n2 : Int)))).run Tryf.prog W = .ok (.slice (some ⟨W.heap.size, 0, none⟩) 0 (n1 + n2)) (W.alloc (.cells (madeCells (Value.slice none 0 0).cells ((n1 + n2) * 1)) 22)) := by
    intro hle W
    obtain ⟨i0, hi, hz0, hz1, hz2⟩ := info_parts infS
    have := run_make_n (P := Tryf.prog) 58 22 i0 _ Tryf.underlying58 hi hz0 .i64 .i64 0 (n1 + n2) (Nat.zero_le _) (by rw [hz2]; omega) (by omega) W
    rw [hz1] at this
    simpa using this
  have HMS := Lib.hid hmS
  clear hmS
  go_enter Tryf.func7, Tryf.ntmps7
  go_wp2_with fail
  refine G.out.mono ?_
  rintro e w1 ⟨r, rfl, rfl⟩
  cases r
  · go_wp2_with fail
    go_ret
    exact ⟨rfl, Below.refl _ _⟩
  clear G
  go_wp2_with fail
  refine SM.out.mono ?_
  rintro e w1 ⟨r, rfl, rfl, hsm⟩
  have HSM := Lib.hid hsm
  clear SM hsm
  cases r
  · go_wp2_with fail
    go_ret
    exact ⟨rfl, Below.refl _ _⟩
  obtain ⟨s0, s3, s12, sl1, sl2⟩ := HSM.out rfl
  have SL1 := Lib.hid sl1
  have SL2 := Lib.hid sl2
  have s1 : n1 ≤ 16384 := by omega
  have s2 : n2 ≤ 16384 := by omega
  clear HSM sl1 sl2
  go_wp2_with fail
  refine OK.out.mono ?_
  rintro e w3 ⟨r, rfl, hb3, ho⟩
  have B3 := Lib.hid hb3
  have HOK := Lib.hid ho
  clear hb3 ho OK
  cases r
  · go_wp2_with fail
    go_ret
    exact ⟨rfl, B3.out⟩
  obtain ⟨o0, o3, o1, o2⟩ := HOK.out rfl
  have O0 := Lib.hid o0
  have O1 := Lib.hid o1
  have O2 := Lib.hid o2
  have O3 := Lib.hid o3
  clear HOK o0 o1 o2 o3
  have hq0 := inQ_getD H0.out
  have hq3 := inQ_getD H3.out
  have M0 := Lib.hid (build12 w3 a0 n0 c0 zs0 (H0.out.below B3.out) s0 O0.out)
  go_wp2_with fail
  refine M0.out.mono ?_
  rintro e w4 ⟨v0, rfl, hv0, hb4⟩
  obtain ⟨x0, rfl, _, _, _⟩ := hv0.open
  simp only [hq0] at hv0 ⊢
  have B4 := Lib.hid (B3.out.trans (hb4.mono B3.out.size))
  have sw4 := B4.out.size
  have V0 := Lib.hid hv0
  generalize hL0 : (zs0.map QE.le).length = l0 at *
  have B4a := Lib.hid (B4.out.alloc B4.out.size (.cells #[.slice x0 l0 l0] 28))
  have sz4 : (w4.alloc (.cells #[.slice x0 l0 l0] 28)).heap.size = w4.heap.size + 1 := by simp
  have M3 := Lib.hid (build12 (w4.alloc (.cells #[.slice x0 l0 l0] 28)) a3 n3 c3 zs3 (H3.out.below B4a.out) s3 O3.out)
  clear hv0 hb4 M0
  go_wp2_with fail
  refine M3.out.mono ?_
  rintro e w5 ⟨v3, rfl, hv3, hb5⟩
  obtain ⟨x3, rfl, _, _, _⟩ := hv3.open
  simp only [hq3] at hv3 ⊢
  have B5 := Lib.hid (B4a.out.trans (hb5.mono B4a.out.size))
  generalize hL3 : (zs3.map QE.le).length = l3 at *
  have L5 := Lib.hid ((Blk.new w4 28 #[.slice x0 l0 l0]).under hb5)
  have V05 := Lib.hid ((V0.out.keep ((Agree.alloc _ w4 (.cells #[.slice x0 l0 l0] 28) fun b h => h.2).trans (Agree.of_below hb5 fun b h => by have := h.2; rw [sz4]; omega))).sub (T := fun b => b < w4.heap.size) fun b h => h.2)
  have V3 := Lib.hid (hv3.sub (T := fun b => w4.heap.size + 1 ≤ b ∧ b < w5.heap.size) fun b h => ⟨by have h7 := h.1; rw [sz4] at h7; exact h7, h.2⟩)
  have s45 := hb5.size
  rw [sz4] at s45
  have B5a := Lib.hid (B5.out.alloc B5.out.size (.cells #[.slice x3 l3 l3] 28))
  have sz5 : (w5.alloc (.cells #[.slice x3 l3 l3] 28)).heap.size = w5.heap.size + 1 := by simp
  have M1 := Lib.hid (bargs29 (w5.alloc (.cells #[.slice x3 l3 l3] 28)) a1 n1 c1 ss a2 n2 c2 ts (H1.out.below B5a.out) (H2.out.below B5a.out) s1 s2 SL1.out SL2.out O1.out O2.out)
  clear hv3 hb5 M3 V0 B4a B4 B3
  go_wp2_with fail
  refine M1.out.mono ?_
  rintro e w6 ⟨ng, lns, vs, us, rfl, hmd, hng, hb6⟩
  rw [sz5] at hmd hng hb6
  simp only [sz5]
  have s56 := hb6.size
  rw [sz5] at s56
  have MD := Lib.hid hmd
  have hngl := hmd.n.lt
  have B6 := Lib.hid (B5a.out.trans (hb6.mono (by have := B5.out.size; omega)))
  have PS := Lib.hid (argS_of hq0 hq3 (fun s hs => inQ_getD (H1.out.2.2.2.2.1 s hs)) (fun s hs => inQ_getD (H2.out.2.2.2.2.1 s hs)) H1.out.1 H2.out.1 s45 L5.out V05.out V3.out hmd hng hb6)
  have OLS : Hid (∀ es ∈ (ss.map fun s => s.zs.map QE.le) ++ (ts.map fun s => s.zs.map QE.le), ∀ e ∈ es, OkL e) := Lib.hid (fun es hes e he => by
    rcases List.mem_append.1 hes with hes | hes
    · obtain ⟨s, hs, rfl⟩ := List.mem_map.1 hes
      obtain ⟨z, hz, rfl⟩ := List.mem_map.1 he
      exact (O1.out s hs z hz).le
    · obtain ⟨s, hs, rfl⟩ := List.mem_map.1 hes
      obtain ⟨z, hz, rfl⟩ := List.mem_map.1 he
      exact (O2.out s hs z hz).le)
  have OL3 : Hid (∀ e ∈ zs3.map QE.le, OkL e) := Lib.hid (fun e he => by obtain ⟨z, hz, rfl⟩ := List.mem_map.1 he; exact (O3.out z hz).le)
  have KP := Lib.hid (arg30 _ _ _ _ _ _ _ _ _ _ _ _ _ _ _ _ _ _ _ _ PS.out s1 s2 OLS.out OL3.out .nilIface)
  obtain ⟨C78, hC78⟩ : ∃ C : Array Value, C = #[.slice (some ⟨w5.heap.size + 1 + 1 + 1, 0, none⟩) n1 n1, .slice (some ⟨ng, 0, none⟩) n2 n2, .slice (some ⟨w5.heap.size + 1 + 1 + 1 + 1, 0, none⟩) n1 n1] := ⟨_, rfl⟩
  have B7 := Lib.hid ((B6.out.alloc B6.out.size (.cells #[.slice (some ⟨w5.heap.size + 1 + 1 + 1, 0, none⟩) n1 n1, .slice (some ⟨ng, 0, none⟩) n2 n2, .slice (some ⟨w5.heap.size + 1 + 1 + 1 + 1, 0, none⟩) n1 n1] 78)).alloc (by have := B6.out.size; simp; omega) (.cells #[] 52))
  have szw := B5.out.size
  have LT := Lib.hid (((hmd.l).alloc (.cells #[.slice (some ⟨w5.heap.size + 1 + 1 + 1, 0, none⟩) n1 n1, .slice (some ⟨ng, 0, none⟩) n2 n2, .slice (some ⟨w5.heap.size + 1 + 1 + 1 + 1, 0, none⟩) n1 n1] 78)).alloc (.cells #[] 52))
  have RL := Lib.hid hmd.rl
  clear hmd hb6 M1 V05 V3 L5 B6 B5a B5 hC78 C78 MD
  have hlp : w4.heap.size < w5.heap.size := by omega
  go_wp2_with fail
  refine KP.out.mono ?_
  rintro e w7 ⟨rfl, ⟨rv', vs', us', hps⟩, hfr⟩
  have PS7 := Lib.hid hps
  have hxb : ∀ b, (b = w4.heap.size ∨ b = w5.heap.size ∨ b = ng ∨ b ∈ lns) → w.heap.size ≤ b := fun b h => by
    rcases h with h | h | h | h
    · omega
    · omega
    · omega
    · have := RL.out b h; omega
  have BB := Lib.hid (hfr.below B7.out B7.out.size hxb)
  have LT7 := Lib.hid (hfr.blk LT.out (fun h => by
    rcases h with h | h | h | h
    · omega
    · omega
    · omega
    · have := RL.out _ h; omega))
  clear hps hfr KP PS B7 hxb LT
  have hln : ∀ (i ln : Nat), lns[i]? = some ln → (lns.flatMap litRow)[i]? = some (.pointer (some ⟨ln, 0, none⟩)) := fun i ln h => by
    have := flat_at litRow 1 (fun _ => rfl) lns i 0 ln h (by omega)
    rw [Nat.mul_one, Nat.add_zero] at this
    rw [this]
    rfl
  have HLN := Lib.hid hln
  clear hln
  have hmS := HMS.out s12
  clear HMS
  obtain ⟨i0, hi, hz0, hz1, hz2⟩ := info_parts infS
  have HI := Lib.hid hi
  have HI1 := Lib.hid hz1
  clear hi hz0 hz1 hz2
  generalize hZ : madeCells (Value.slice none 0 0).cells ((n1 + n2) * 1) = Z at hmS
  have HZ := Lib.hid (show Z.size = (n1 + n2) * 1 by rw [← hZ]; simp [size_madeCells])
  clear hZ
  obtain ⟨VS, hVS⟩ : ∃ VS, VS = (ss ++ ts).map QS.val := ⟨_, rfl⟩
  have HVS := Lib.hid hVS
  clear hVS
  go_wp2_with fail
  go_loopw [13, 14] (fun v i wr => ∃ k : Nat, k ≤ n1 ∧ i = .int .i64 k ∧ v = .slice (some ⟨w7.heap.size, 0, none⟩) k (n1 + n2) ∧ Hid (wr.ownsRow w7.heap.size 22 1 (.slice (some ⟨w7.heap.size, 0, none⟩) k (n1 + n2)) k (VS.take k)) ∧ Hid (Below w7.heap.size w7 wr)) (fun _ i _ => n1 - (intOf i).toNat)
  case atStart => exact ⟨0, Nat.zero_le _, rfl, rfl, Lib.hid (by have := own_made (w := w7) (e := 22) (size := 1) HZ.out (by omega); simpa using this), Lib.hid ((Below.refl _ _).alloc (Nat.le_refl _) _)⟩
  case round =>
    obtain ⟨k, hk, rfl, rfl, hown, hbel⟩ := hrel
    have BR := Lib.hid (BB.out.trans (hbel.out.mono BB.out.size))
    by_cases hlt : k < n1
    · clear hmS
      obtain ⟨s, hs⟩ : ∃ s, ss[k]? = some s := ⟨ss[k]'(by rw [H1.out.1]; omega), by simp⟩
      obtain ⟨b, off, ha, hb, x0⟩ := IsQss.at (H1.out.2.2.2.2.2.below BR.out) hs
      subst ha
      have hbw : b < wr.heap.size := Nat.lt_of_lt_of_le hb BR.out.size
      have HTK : Hid (VS.take (k + 1) = VS.take k ++ [s.val]) := Lib.hid (by
        rw [List.take_add_one, HVS.out, List.getElem?_map, List.getElem?_append_left (by rw [H1.out.1]; omega), hs]
        rfl)
      clear hs
      go_wp2_with (at_builtin; refine wpList_append_fits _ rfl (.tmp 65) (.tmp 70) 58 rfl w7.heap.size 22 i0 1 Tryf.underlying58 HI.out HI1.out w7.heap.size k (n1 + n2) (VS.take k) rfl (hown.out.alloc _) ⟨wr.heap.size, 0, none⟩ 1 1 [s.val] rfl rfl (new_cells _ _ _) (fun u hu => by simp at hu; subst hu; rfl) (by omega) ?_)
      intro w8 hown1 hgrow1
      rw [← HTK.out] at hown1
      have HO := Lib.hid hown1
      have HB := Lib.hid ((hbel.out.alloc hbel.out.size (.cells #[.slice s.a s.l s.c] 22)).grown hgrow1 (by simp; exact Nat.le_succ_of_le hbel.out.size) (by intro q hq; injection hq with hq; omega))
      clear hown1 hgrow1 hown x0
      go_wp2_with fail
      go_roundw
      case rel => exact ⟨k + 1, by omega, by go_num, by go_num, HO, HB⟩
      case measure => simp [intOf]; omega
    · obtain rfl : k = n1 := by omega
      clear hmS
      go_wp2_with fail
      go_loopw [13, 15] (fun v i wr => ∃ j : Nat, j ≤ n2 ∧ i = .int .i64 j ∧ v = .slice (some ⟨w7.heap.size, 0, none⟩) (k + j) (k + n2) ∧ Hid (wr.ownsRow w7.heap.size 22 1 (.slice (some ⟨w7.heap.size, 0, none⟩) (k + j) (k + n2)) (k + j) (VS.take (k + j))) ∧ Hid (Below w7.heap.size w7 wr)) (fun _ i _ => n2 - (intOf i).toNat)
      case atStart => exact ⟨0, Nat.zero_le _, rfl, rfl, hown, hbel⟩
      case round =>
        rename_i wx
        clear BR hown hbel
        obtain ⟨j, hj, rfl, rfl, hown, hbel⟩ := hrel
        have BR := Lib.hid (BB.out.trans (hbel.out.mono BB.out.size))
        by_cases hlt2 : j < n2
        · skip
          obtain ⟨s, hs⟩ : ∃ s, ts[j]? = some s := ⟨ts[j]'(by rw [H2.out.1]; omega), by simp⟩
          obtain ⟨b, off, ha, hb, x0⟩ := IsQss.at (H2.out.2.2.2.2.2.below BR.out) hs
          subst ha
          have hbw : b < wr.heap.size := Nat.lt_of_lt_of_le hb BR.out.size
          have HTK : Hid (VS.take ((k + j) + 1) = VS.take (k + j) ++ [s.val]) := Lib.hid (by
            rw [List.take_add_one, HVS.out, List.getElem?_map, List.getElem?_append_right (by rw [H1.out.1]; omega), H1.out.1, Nat.add_sub_cancel_left, hs]
            rfl)
          clear hs
          go_wp2_with (at_builtin; refine wpList_append_fits _ rfl (.tmp 78) (.tmp 83) 58 rfl w7.heap.size 22 i0 1 Tryf.underlying58 HI.out HI1.out w7.heap.size (k + j) (k + n2) (VS.take (k + j)) rfl (hown.out.alloc _) ⟨wr.heap.size, 0, none⟩ 1 1 [s.val] rfl rfl (new_cells _ _ _) (fun u hu => by simp at hu; subst hu; rfl) (by omega) ?_)
          intro w8 howk hgrow1
          rw [← HTK.out] at howk
          have HO := Lib.hid howk
          have HB := Lib.hid ((hbel.out.alloc hbel.out.size (.cells #[.slice s.a s.l s.c] 22)).grown hgrow1 (by simp; exact Nat.le_succ_of_le hbel.out.size) (by intro q hq; injection hq with hq; omega))
          clear howk hgrow1 hown x0
          go_wp2_with fail
          go_roundw
          case rel => exact ⟨j + 1, by omega, by go_num, by first | rfl | go_num, HO, HB⟩
          case measure => simp [intOf]; omega
        · obtain rfl : j = n2 := by omega
          have hall : (ss ++ ts).length = k + j := by rw [List.length_append, H1.out.1, H2.out.1]
          have hfull := hown.out
          rw [List.take_of_length_le (by rw [HVS.out, List.length_map]; omega), HVS.out] at hfull
          have hblk := own_blk hfull
          have HA : Hid (IsQss wr (some ⟨w7.heap.size, 0, none⟩) (k + j) (k + j) (ss ++ ts)) := Lib.hid ⟨hall, Nat.le_refl _, by unfold maxLen; omega, (fun h => by cases h), (fun s hs => by
            rcases List.mem_append.1 hs with h | h
            · exact (H1.out.2.2.2.2.1 s h).below BR.out
            · exact (H2.out.2.2.2.2.1 s h).below BR.out), (by have := hblk.rd wr.heap.size hblk.lt; simpa using this)⟩
          have hgl := hblk.lt
          clear hall hfull hblk hown
          have PSB := Lib.hid (PS7.out.below hbel.out)
          have LTB := Lib.hid (LT7.out.under hbel.out)
          obtain ⟨wB, hwB⟩ : ∃ wB, wB = wr := ⟨_, rfl⟩
          subst hwB
          have M0 := Lib.hid (build12 wB a0 n0 c0 zs0 (H0.out.below BR.out) s0 O0.out)
          go_wp2_with fail
          refine M0.out.mono ?_
          rintro e w8 ⟨v0, rfl, hv0, hb8⟩
          obtain ⟨y0, rfl, _, _, _⟩ := hv0.open
          simp only [hq0, hL0] at hv0 ⊢
          have sw8 := hb8.size
          have B8 := Lib.hid hb8
          have V0 := Lib.hid hv0
          have sz8 : (w8.alloc (.cells #[.slice y0 l0 l0] 28)).heap.size = w8.heap.size + 1 := by simp
          have B8a := Lib.hid (hb8.alloc hb8.size (.cells #[.slice y0 l0 l0] 28))
          have M3 := Lib.hid (build12 (w8.alloc (.cells #[.slice y0 l0 l0] 28)) a3 n3 c3 zs3 ((H3.out.below BR.out).below B8a.out) s3 O3.out)
          clear hv0 hb8 M0
          go_wp2_with fail
          refine M3.out.mono ?_
          rintro e w9 ⟨v3, rfl, hv3, hb9⟩
          obtain ⟨y3, rfl, _, _, _⟩ := hv3.open
          simp only [hq3, hL3] at hv3 ⊢
          have B9 := Lib.hid (B8a.out.trans (hb9.mono (by rw [sz8]; omega)))
          have L9 := Lib.hid ((Blk.new w8 28 #[.slice y0 l0 l0]).under hb9)
          have V09 := Lib.hid ((V0.out.keep ((Agree.alloc _ w8 (.cells #[.slice y0 l0 l0] 28) fun b h => h.2).trans (Agree.of_below hb9 fun b h => by have := h.2; rw [sz8]; omega))).sub (T := fun b => b < w8.heap.size) fun b h => h.2)
          have V3 := Lib.hid (hv3.sub (T := fun b => w8.heap.size + 1 ≤ b ∧ b < w9.heap.size) fun b h => ⟨by have h7 := h.1; rw [sz8] at h7; exact h7, h.2⟩)
          have s89 := hb9.size
          rw [sz8] at s89
          have B9a := Lib.hid (B9.out.alloc B9.out.size (.cells #[.slice y3 l3 l3] 28))
          have sz9 : (w9.alloc (.cells #[.slice y3 l3 l3] 28)).heap.size = w9.heap.size + 1 := by simp
          have M1 := Lib.hid (bprm23 (w9.alloc (.cells #[.slice y3 l3 l3] 28)) (some ⟨w7.heap.size, 0, none⟩) (k + j) (k + j) (ss ++ ts) (HA.out.below B9a.out) s12 (fun s hs => by rcases List.mem_append.1 hs with h | h; exact SL1.out s h; exact SL2.out s h) (fun s hs => by rcases List.mem_append.1 hs with h | h; exact O1.out s h; exact O2.out s h))
          clear hv3 hb9 M3 V0 B8a B8
          go_wp2_with fail
          refine M1.out.mono ?_
          rintro e w10 ⟨vp0, rfl, hg, hvl, hfs, hb10⟩
          rw [sz9] at hg hfs hb10
          simp only [sz9]
          have s910 := hb10.size
          rw [sz9] at s910
          have hgl2 := hg.lt
          have B10 := Lib.hid (B9a.out.trans (hb10.mono (by have := B9.out.size; omega)))
          have QS := Lib.hid (prmS_of hq0 hq3 (fun s hs => by rcases List.mem_append.1 hs with h | h; exact inQ_getD (H1.out.2.2.2.2.1 s h); exact inQ_getD (H2.out.2.2.2.2.1 s h)) HA.out.1 s89 L9.out V09.out V3.out hg hvl hfs hb10)
          rw [List.map_append] at QS
          have KP := Lib.hid (prm24 _ _ _ _ _ _ _ _ _ _ _ _ _ QS.out s12 OLS.out OL3.out .nilIface)
          have B11 := Lib.hid ((B10.out.alloc B10.out.size (.cells #[.slice (some ⟨w9.heap.size + 1, 0, none⟩) (k + j) (k + j)] 62)).alloc (by have := B10.out.size; simp; omega) (.cells #[] 52))
          have sz9' := B9.out.size
          clear hg hfs hb10 M1 V09 V3 L9 B10 B9a B9
          have hlp2 : w8.heap.size < w9.heap.size := by omega
          go_wp2_with fail
          refine KP.out.mono ?_
          rintro e w11 ⟨rfl, ⟨rv2, vp, hps2⟩, hfr2⟩
          have QS7 := Lib.hid hps2
          have BC := Lib.hid (hfr2.below B11.out B11.out.size (by rintro b (h | h | h | h) <;> omega))
          clear hps2 hfr2 KP QS B11
          have PSE := Lib.hid (PSB.out.below BC.out)
          have LTE := Lib.hid (LTB.out.under BC.out)
          have BE := Lib.hid (BR.out.trans (BC.out.mono BR.out.size))
          clear PSB LTB BC BR BB PS7 LT7 OLS OL3
          obtain ⟨nr, hnr⟩ : ∃ nr, nr = (nearA ((ss.map fun s => s.zs.map QE.le) ++ (ts.map fun s => s.zs.map QE.le)) (k + j) || hasL (zs3.map QE.le)) := ⟨_, rfl⟩
          obtain ⟨FX, hFX⟩ : ∃ FX, FX = fixP nr (betA ((ss.map fun s => s.zs.map QE.le) ++ (ts.map fun s => s.zs.map QE.le)) (k + j)) ((ss.map fun s => s.zs.map QE.le) ++ (ts.map fun s => s.zs.map QE.le)) := ⟨_, rfl⟩
          have HFX : Hid (FX.length = k + j) := Lib.hid (by rw [hFX, fixP_len, List.length_append, List.length_map, List.length_map, H1.out.1, H2.out.1])
          rw [← hnr, ← hFX] at PSE QS7
          obtain ⟨FR, hFR⟩ : ∃ FR, FR = fix nr (zs3.map QE.le) := ⟨_, rfl⟩
          rw [← hFR] at PSE QS7
          clear hnr hFX hFR
          obtain ⟨ra, rc, rfl, _⟩ := PSE.out.fr.open
          obtain ⟨rb, rd, rfl, _⟩ := QS7.out.fr.open
          have q0 := PSE.out.bl.cell 0
          have q1 := PSE.out.br.cell 0
          have q2 := QS7.out.bl.cell 0
          have q3 := QS7.out.br.cell 0
          have q4 := QS7.out.bp.cell 0
          simp at q0 q1 q2 q3 q4
          have ql0 := PSE.out.bl.lt
          have ql1 := PSE.out.br.lt
          have ql2 := QS7.out.bl.lt
          have ql3 := QS7.out.br.lt
          have ql4 := QS7.out.bp.lt
          have KL := Lib.hid (eq19 w11 _ _ _ _ PSE.out.fl.fodR QS7.out.fl.fodR rfl)
          have KR := Lib.hid fun w' (hb : Below w11.heap.size w11 w') => eq19 w' _ _ _ _ (PSE.out.fr.fodR.below hb) (QS7.out.fr.fodR.below hb) rfl
          generalize FR.length = lR at *
          go_wp2_with fail
          refine KL.out.mono ?_
          rintro e w12 ⟨rfl, hb12⟩
          have B12 := Lib.hid hb12
          replace q1 := (hb12.cell (p := ⟨w5.heap.size, 0, none⟩) ql1).trans q1
          replace q3 := (hb12.cell (p := ⟨w9.heap.size, 0, none⟩) ql3).trans q3
          have ql1' := Nat.lt_of_lt_of_le ql1 hb12.size
          have ql3' := Nat.lt_of_lt_of_le ql3 hb12.size
          clear hb12 KL q0 q2
          go_wp2_with fail
          refine (KR.out _ B12.out).mono ?_
          rintro e w13 ⟨rfl, hb13⟩
          have B13 := Lib.hid (B12.out.trans (hb13.mono B12.out.size))
          replace q4 := (B13.out.cell (p := ⟨w10.heap.size, 0, none⟩) ql4).trans q4
          have ql4' := Nat.lt_of_lt_of_le ql4 B13.out.size
          clear hb13 KR q1 q3
          go_wp2_with fail
          have PSF := Lib.hid (PSE.out.below B13.out)
          have QSF := Lib.hid (QS7.out.below B13.out)
          have LTF := Lib.hid (LTE.out.under B13.out)
          have BF := Lib.hid (BE.out.trans (B13.out.mono BE.out.size))
          clear PSE QS7 LTE BE B13 B12 q4 ql0 ql1 ql2 ql3 ql4 ql1' ql3' ql4'
          go_loopw [20] (fun i wr => ∃ q : Nat, q ≤ k + j ∧ i = .int .i64 q ∧ Hid (Below w13.heap.size w13 wr)) (fun i _ => (k + j) - (intOf i).toNat)
          case atStart => exact ⟨0, Nat.zero_le _, rfl, Lib.hid (Below.refl _ _)⟩
          case round =>
            rename_i wy
            clear hbel
            obtain ⟨q, hq, rfl, hbel⟩ := hrel
            obtain ⟨wo, hwo⟩ : ∃ wo, wo = wr := ⟨_, rfl⟩
            subst hwo
            have PR := Lib.hid (PSF.out.below hbel.out)
            have QR := Lib.hid (QSF.out.below hbel.out)
            have LR := Lib.hid (LTF.out.under hbel.out)
            have BG := Lib.hid (BF.out.trans (hbel.out.mono BF.out.size))
            have ql4 := PR.out.ba.lt
            by_cases hjt : q < k
            · have hlt2 : (q : Int) < (k : Int) + (j : Int) := by omega
              obtain ⟨es, hes⟩ : ∃ es, FX[q]? = some es := ⟨FX[q]'(by rw [HFX.out]; omega), by simp⟩
              have hfa : (FX.take k)[q]? = some es := by rw [List.getElem?_take_of_lt hjt]; exact hes
              obtain ⟨ln, hln⟩ : ∃ v, lns[q]? = some v := ⟨lns[q]'(by rw [PR.out.l1]; exact hjt), by simp⟩
              obtain ⟨v, hv⟩ : ∃ v, vs'[q]? = some v := ⟨vs'[q]'(by rw [PR.out.l2]; exact hjt), by simp⟩
              have hfn := PR.out.fp q v _ hv hfa
              have q5 := PR.out.ba.cell 2
              simp at q5
              have g0 := LR.out.cell q
              rw [List.getElem?_toArray, HLN.out q ln hln] at g0
              have gl := LR.out.lt
              have hlit := PR.out.lit q ln v hln hv
              have g1 := hlit.cell 0
              simp [nullC] at g1
              have gl1 := hlit.lt
              obtain ⟨v2, hv2⟩ : ∃ v, vp[q]? = some v := ⟨vp[q]'(by rw [QR.out.ln]; omega), by simp⟩
              have hfn2 := QR.out.fs q v2 _ hv2 hes
              have p5 := QR.out.bp.cell 0
              simp at p5
              have pl := QR.out.bp.lt
              have h0 := pcell QR.out.bg hv2 (j := 0) (by omega)
              simp [pcs] at h0
              have hl := QR.out.bg.lt
              have KS := Lib.hid (eq19 wo.drew v v2 es es (show FodR wo.drew v _ from hfn.fodR) (show FodR wo.drew v2 _ from hfn2.fodR) rfl)
              obtain ⟨va, vc, rfl, _⟩ := hfn.open
              obtain ⟨va2, vc2, rfl, _⟩ := hfn2.open
              clear hv hv2 hfa hfn hfn2 hes hln hlit
              generalize es.length = lE at *
              go_wp2_with fail
              refine wp_region_tail 14 (by kernel_rfl) (by kernel_rfl) ?_
              simp only [List.take_succ_cons, List.take_zero, List.drop_succ_cons, List.drop_zero]
              repeat still_step
              refine wpStill_nil ?_
              go_wp2_with fail
              refine KS.out.mono ?_
              rintro e w10 ⟨rfl, hb10⟩
              have BN := Lib.hid (hbel.out.drew.trans (hb10.mono hbel.out.size))
              clear hb10 KS
              go_wp2_with fail
              go_roundw
              case rel => exact ⟨q + 1, by omega, by go_num, BN⟩
              case measure => simp [intOf]; omega
            · by_cases hjt2 : q < k + j
              · obtain ⟨i, hqi⟩ : ∃ i, q = k + i := ⟨q - k, by omega⟩
                have hki : ((q : Int) - (k : Int)) = (i : Int) := by omega
                have hwi : IntKind.i64.wrap (i : Int) = (i : Int) := Go.IntWalk.i64_in _ (by omega)
                have hin : i < j := by omega
                have hlt3 : (q : Int) < (k : Int) + (j : Int) := by omega
                have hlt4 : ¬ ((q : Int) < (k : Int)) := by omega
                have HQI := Lib.hid hqi
                clear hqi
                obtain ⟨es, hes⟩ : ∃ es, FX[q]? = some es := ⟨FX[q]'(by rw [HFX.out]; omega), by simp⟩
                have hfa : (FX.drop k)[i]? = some es := by rw [List.getElem?_drop, ← HQI.out]; exact hes
                obtain ⟨⟨v, mn⟩, hv⟩ : ∃ v, us'[i]? = some v := ⟨us'[i]'(by rw [PR.out.l4]; omega), by simp⟩
                have hfn := PR.out.fn i (v, mn) _ hv hfa
                simp only at hfn
                have q5 := PR.out.ba.cell 1
                simp at q5
                have g0 : wo.cell? ⟨ng, i * 5, none⟩ = some v := by rw [PR.out.bn.cell, List.getElem?_toArray]; exact cellsN_at us' i 0 (v, mn) hv (by omega)
                have gl := PR.out.bn.lt
                obtain ⟨v2, hv2⟩ : ∃ v, vp[q]? = some v := ⟨vp[q]'(by rw [QR.out.ln]; omega), by simp⟩
                have hfn2 := QR.out.fs q v2 _ hv2 hes
                have p5 := QR.out.bp.cell 0
                simp at p5
                have pl := QR.out.bp.lt
                have h0 := pcell QR.out.bg hv2 (j := 0) (by omega)
                simp [pcs] at h0
                have hl := QR.out.bg.lt
                have KS := Lib.hid (eq19 wo.drew v v2 es es (show FodR wo.drew v _ from hfn.fodR) (show FodR wo.drew v2 _ from hfn2.fodR) rfl)
                obtain ⟨va, vc, rfl, _⟩ := hfn.open
                obtain ⟨va2, vc2, rfl, _⟩ := hfn2.open
                clear hv hv2 hfa hfn hfn2 hes
                generalize es.length = lE at *
                go_wp2_with fail
                refine wp_region_tail 15 (by kernel_rfl) (by kernel_rfl) ?_
                simp only [List.take_succ_cons, List.take_zero, List.drop_succ_cons, List.drop_zero]
                repeat still_step
                (try simp only [hki, hwi])
                repeat still_step
                refine wpStill_nil ?_
                go_wp2_with fail
                refine KS.out.mono ?_
                rintro e w10 ⟨rfl, hb10⟩
                have BN := Lib.hid (hbel.out.drew.trans (hb10.mono hbel.out.size))
                clear hb10 KS
                go_wp2_with fail
                go_roundw
                case rel => exact ⟨q + 1, by omega, by go_num, BN⟩
                case measure => simp [intOf]; omega
              · obtain rfl : q = k + j := by omega
                go_wp2_with fail
                go_ret
                exact ⟨rfl, BG.out⟩
end Go.Proofs.YtlaghkppjdphnaaFmt
