/- The walk of the law that parens expand all or none. -/
import Derived.Test.YtlaghkppjdphnaaFmtSlo
namespace Go.Proofs.YtlaghkppjdphnaaFmt
open Go.RowKit
set_option linter.unusedVariables false

def SomeB (w : World) (e : Ending) (w' : World) : Prop := ∃ r : Bool, e = .returned (.bool r) ∧ w = w'
theorem guard9 (w : World) (a : Option Addr) (n cn : Nat) (b : Option Addr) (m cm : Nat) (hn : n ≤ 9223372036854775807) (hm : m ≤ 9223372036854775807) : Calls Tryf.prog 9 #[.slice a n cn, .slice b m cm] w (SomeB w) := by
  by_cases h1 : 1048576 < n
  · go_enter Tryf.func9, Tryf.ntmps9
    go_wp2
    go_ret
    exact ⟨false, rfl, rfl⟩
  by_cases h2 : 1048576 < m
  · go_enter Tryf.func9, Tryf.ntmps9
    go_wp2
    go_ret
    exact ⟨false, rfl, rfl⟩
  by_cases h3 : 1048576 < n + m
  · go_enter Tryf.func9, Tryf.ntmps9
    go_wp2
    go_ret
    exact ⟨false, rfl, rfl⟩
  go_enter Tryf.func9, Tryf.ntmps9
  go_wp2
  go_ret
  exact ⟨true, rfl, rfl⟩
theorem guard16 (w : World) (a : Option Addr) (n cn : Nat) (b : Option Addr) (m cm : Nat) (hn : n ≤ 9223372036854775807) (hm : m ≤ 9223372036854775807) : Calls Tryf.prog 16 #[.slice a n cn, .slice b m cm] w (SomeB w) := by
  by_cases h1 : 1048576 < n
  · go_enter Tryf.func16, Tryf.ntmps16
    go_wp2
    go_ret
    exact ⟨false, rfl, rfl⟩
  by_cases h2 : 1048576 < m
  · go_enter Tryf.func16, Tryf.ntmps16
    go_wp2
    go_ret
    exact ⟨false, rfl, rfl⟩
  by_cases h3 : 1048576 < n + m
  · go_enter Tryf.func16, Tryf.ntmps16
    go_wp2
    go_ret
    exact ⟨false, rfl, rfl⟩
  go_enter Tryf.func16, Tryf.ntmps16
  go_wp2
  go_ret
  exact ⟨true, rfl, rfl⟩
theorem inQ_getD {w : World} {a : Option Addr} {n c : Nat} {zs : List QE} (h : IsQs w a n c zs) : (inQ a zs).getD [] = zs.map QE.le := by
  cases a with
  | some x => rfl
  | none =>
    have h1 := h.2.2.2.1 rfl
    have h2 := h.1
    have h3 := h.2.1
    obtain rfl : zs = [] := List.length_eq_zero_iff.1 (by omega)
    rfl

set_option maxRecDepth 100000 in
set_option maxHeartbeats 6400000 in
theorem law18 (a0 : Option Addr) (n0 c0 : Nat) (zs0 : List QE) (a1 : Option Addr) (n1 c1 : Nat) (zs1 : List QE) (w : World) (h0 : IsQs w a0 n0 c0 zs0) (h1 : IsQs w a1 n1 c1 zs1) :
    Calls Tryf.prog 3 #[.slice a0 n0 c0, .slice a1 n1 c1] w fun e w' => e = .returned (.bool true) ∧ Below w.heap.size w w' := by
  have hn0 : n0 ≤ 9223372036854775807 := by have := h0.2.1; have := h0.2.2.1; unfold maxLen at this; omega
  have hn1 : n1 ≤ 9223372036854775807 := by have := h1.2.1; have := h1.2.2.1; unfold maxLen at this; omega
  have G := Lib.hid (guard9 w a0 n0 c0 a1 n1 c1 hn0 hn1)
  have C0 := Lib.hid (cost10 w a0 n0 c0 zs0 h0)
  have C1 := Lib.hid (cost10 w a1 n1 c1 zs1 h1)
  have H0 := Lib.hid h0
  have H1 := Lib.hid h1
  clear h0 h1
  go_enter Tryf.func3, Tryf.ntmps3
  go_wp2_with fail
  refine G.out.mono ?_
  rintro e w1 ⟨r, rfl, rfl⟩
  cases r
  · go_wp2_with fail
    go_ret
    exact ⟨rfl, Below.refl _ _⟩
  clear G
  go_wp2_with fail
  refine C0.out.mono ?_
  rintro e w1 ⟨m0, rfl, rfl, hm0, hq0⟩
  go_wp2_with fail
  refine C1.out.mono ?_
  rintro e w1 ⟨m1, rfl, rfl, hm1, hq1⟩
  clear C0 C1
  by_cases hm : 16384 < m0 + m1
  · go_wp2_with fail
    go_ret
    exact ⟨rfl, Below.refl _ _⟩
  have hd0 : decide ((16384 : Int) < (m0 : Int) + (m1 : Int)) = false := by simp; omega
  have s0 : n0 ≤ 16384 := hq0 (by omega)
  have s1 : n1 ≤ 16384 := hq1 (by omega)
  have A0 := Lib.hid (all11 w a0 n0 c0 zs0 H0.out)
  clear hq0 hq1
  go_wp2_with fail
  refine A0.out.mono ?_
  rintro e w1 ⟨r, rfl, hb1, ho0⟩
  cases r
  · have B := Lib.hid hb1
    clear hb1
    go_wp2_with fail
    go_ret
    exact ⟨rfl, B.out⟩
  have O0 := Lib.hid (ho0 rfl)
  have B1 := Lib.hid hb1
  have A1 := Lib.hid (all11 w1 a1 n1 c1 zs1 (H1.out.below hb1))
  clear hb1 ho0 A0
  go_wp2_with fail
  refine A1.out.mono ?_
  rintro e w2 ⟨r, rfl, hb2, ho1⟩
  have B2 := Lib.hid (B1.out.trans (hb2.mono B1.out.size))
  have O1' := Lib.hid ho1
  clear hb2 ho1 A1 B1
  cases r
  · go_wp2_with fail
    go_ret
    exact ⟨rfl, B2.out⟩
  have O1 := Lib.hid (O1'.out rfl)
  have M0 := Lib.hid (build12 w2 a0 n0 c0 zs0 (H0.out.below B2.out) s0 O0.out)
  clear O1'
  go_wp2_with fail
  refine M0.out.mono ?_
  rintro e w3 ⟨v0, rfl, hv0, hb3⟩
  obtain ⟨x0, rfl, _, _, _⟩ := hv0.open
  have hq0 := inQ_getD H0.out
  have hq1 := inQ_getD H1.out
  simp only [hq0] at hv0 ⊢
  have B3 := Lib.hid (B2.out.trans (hb3.mono B2.out.size))
  have V0 := Lib.hid hv0
  have B3a := Lib.hid (B3.out.alloc B3.out.size (.cells (nullC (.slice x0 (zs0.map QE.le).length (zs0.map QE.le).length)) 42))
  have sz3 : (w3.alloc (.cells (nullC (.slice x0 (zs0.map QE.le).length (zs0.map QE.le).length)) 42)).heap.size = w3.heap.size + 1 := by simp
  have M1 := Lib.hid (build12 (w3.alloc (.cells (nullC (.slice x0 (zs0.map QE.le).length (zs0.map QE.le).length)) 42)) a1 n1 c1 zs1 (H1.out.below B3a.out) s1 O1.out)
  have s23 := hb3.size
  clear hv0 hb3 M0
  generalize hL0 : (zs0.map QE.le).length = l0 at *
  unfold nullC at M1 B3a sz3
  go_wp2_with fail
  refine M1.out.mono ?_
  rintro e w4 ⟨v1, rfl, hv1, hb4⟩
  obtain ⟨x1, rfl, _, _, _⟩ := hv1.open
  simp only [hq1] at hv1 ⊢
  generalize hL1 : (zs1.map QE.le).length = l1 at *
  have hb4s := hb4.size
  rw [sz3] at hb4s
  have B4 := Lib.hid (B3a.out.trans (hb4.mono B3a.out.size))
  have PS := Lib.hid (show ParS ((w4.alloc (.cells (parC w3.heap.size (.slice x1 l1 l1)) 47)).alloc (.cells #[] 52)) (w4.heap.size + 1) w4.heap.size w3.heap.size (.slice x0 l0 l0) (.slice x1 l1 l1) (zs0.map QE.le) (zs1.map QE.le) from by
    have hc : Blk ((w4.alloc (.cells (parC w3.heap.size (.slice x1 l1 l1)) 47)).alloc (.cells #[] 52)) (w4.heap.size + 1) 52 #[] := by have := Blk.new (w4.alloc (.cells (parC w3.heap.size (.slice x1 l1 l1)) 47)) 52 #[]; simpa using this
    have hl : Blk w4 w3.heap.size 42 (nullC (.slice x0 l0 l0)) := (Blk.new w3 42 (nullC (.slice x0 l0 l0))).under hb4
    have fr1 : Fr w3 ((w4.alloc (.cells (parC w3.heap.size (.slice x1 l1 l1)) 47)).alloc (.cells #[] 52)) (fun _ => False) := Fr.of_below ((((Below.refl w3.heap.size w3).alloc (Nat.le_refl _) _).trans (hb4.mono (by rw [sz3]; omega))).alloc (by omega) _ |>.alloc (by simp; omega) _) _
    have fr2 : Fr w4 ((w4.alloc (.cells (parC w3.heap.size (.slice x1 l1 l1)) 47)).alloc (.cells #[] 52)) (fun _ => False) := ((Fr.refl w4 _).alloc _).alloc _
    refine ⟨hc, (Blk.new w4 47 (parC w3.heap.size (.slice x1 l1 l1))).alloc _, (hl.alloc _).alloc _, ⟨inQ a0 zs0, ?_, hq0, fun _ => ?_⟩, ⟨inQ a1 zs1, ?_, hq1, fun _ => ?_⟩, by omega, by omega, by omega⟩
    · refine (FodC.fodV V0.out |>.keep (fr1.agree fun b hb => ⟨hb.2, fun h => h⟩)).sub fun b hb => ⟨by have := hb.2; simp; omega, by have := hb.2; omega⟩
    · refine (V0.out.keep (fr1.agree fun b hb => ⟨hb.2, fun h => h⟩)).sub fun b hb => ⟨by have := hb.2; simp; omega, by have := hb.2; omega⟩
    · refine (FodC.fodV hv1 |>.keep (fr2.agree fun b hb => ⟨hb.2, fun h => h⟩)).sub fun b hb => ⟨by have := hb.2; simp; omega, by have h7 := hb.1; rw [sz3] at h7; have := hb.2; omega⟩
    · refine (hv1.keep (fr2.agree fun b hb => ⟨hb.2, fun h => h⟩)).sub fun b hb => ⟨by have := hb.2; simp; omega, by have h7 := hb.1; rw [sz3] at h7; have := hb.2; omega⟩)
  have B5 := Lib.hid ((B4.out.alloc B4.out.size (.cells (parC w3.heap.size (.slice x1 l1 l1)) 47)).alloc (by have := B4.out.size; simp; omega) (.cells #[] 52))
  have OL0 : Hid (∀ e ∈ zs0.map QE.le, OkL e) := Lib.hid (fun e he => by obtain ⟨z, hz, rfl⟩ := List.mem_map.1 he; exact (O0.out z hz).le)
  have OL1 : Hid (∀ e ∈ zs1.map QE.le, OkL e) := Lib.hid (fun e he => by obtain ⟨z, hz, rfl⟩ := List.mem_map.1 he; exact (O1.out z hz).le)
  have KP := Lib.hid (par13 _ _ _ _ _ _ _ _ PS.out OL0.out OL1.out .nilIface)
  have szw3 := B3.out.size
  have szw4 := B4.out.size
  have hp34 : w3.heap.size < w4.heap.size := by omega
  clear hv1 hb4 M1 V0 B4 B3a B3 B2 hq0 hq1
  rw [hasL_map, hasL_map] at KP
  unfold parC at KP PS B5
  go_wp2_with fail
  refine KP.out.mono ?_
  rintro e w5 ⟨rfl, ⟨v0', v1', hps⟩, hfr⟩
  have PS5 := Lib.hid hps
  have B6 := Lib.hid (hfr.below B5.out B5.out.size (by rintro b (h | h) <;> omega))
  clear hps hfr KP PS B5
  have E0 := Lib.hid (has14 w5 a0 n0 c0 zs0 (H0.out.below B6.out))
  have E1 := Lib.hid (has14 w5 a1 n1 c1 zs1 (H1.out.below B6.out))
  have SL0 := Lib.hid (fun want => fun (hf : FodR w5 v0' (fix want (zs0.map QE.le))) => slot15 w5 v0' a0 n0 c0 zs0 want hf (H0.out.below B6.out) s0 O0.out)
  have SL1 := Lib.hid (fun want w' (hb : Below w5.heap.size w5 w') (hf : FodR w5 v1' (fix want (zs1.map QE.le))) => slot15 w' v1' a1 n1 c1 zs1 want (hf.below hb) (H1.out.below (B6.out.trans (hb.mono B6.out.size))) s1 O1.out)
  have q2 := PS5.out.bp.cell 2
  simp [parC] at q2
  have ql := PS5.out.bp.lt
  have l0' := PS5.out.bl.cell 0
  simp [nullC] at l0'
  have ll := PS5.out.bl.lt
  obtain ⟨y0, z0, rfl, _⟩ := PS5.out.f1.open
  obtain ⟨y1, z1, rfl, _⟩ := PS5.out.f2.open
  generalize (zs0.any fun z => z.kind != 1) = r0 at *
  generalize (zs1.any fun z => z.kind != 1) = r1 at *
  cases r0 <;> cases r1
  · skip
    go_wp2_with fail
    refine E0.out.mono ?_
    rintro e w6 ⟨rfl, rfl⟩
    go_wp2_with fail
    refine E1.out.mono ?_
    rintro e w6 ⟨rfl, rfl⟩
    go_wp2_with fail
    refine (SL0.out false PS5.out.f1.fodR).mono ?_
    rintro e w6 ⟨rfl, hb6⟩
    have P6 := Lib.hid (PS5.out.below hb6)
    have p1 := P6.out.bp.cell 1
    simp [parC] at p1
    have pl := P6.out.bp.lt
    have HB6 := Lib.hid hb6
    clear hb6 q2 ql l0' ll
    go_wp2_with fail
    refine (SL1.out false _ HB6.out PS5.out.f2.fodR).mono ?_
    rintro e w7 ⟨rfl, hb7⟩
    have B7 := Lib.hid (B6.out.trans ((HB6.out.trans (hb7.mono HB6.out.size)).mono B6.out.size))
    clear hb7
    go_wp2_with fail
    go_ret
    exact ⟨rfl, B7.out⟩
  · skip
    go_wp2_with fail
    refine E0.out.mono ?_
    rintro e w6 ⟨rfl, rfl⟩
    go_wp2_with fail
    refine E1.out.mono ?_
    rintro e w6 ⟨rfl, rfl⟩
    go_wp2_with fail
    refine (SL0.out true PS5.out.f1.fodR).mono ?_
    rintro e w6 ⟨rfl, hb6⟩
    have P6 := Lib.hid (PS5.out.below hb6)
    have p1 := P6.out.bp.cell 1
    simp [parC] at p1
    have pl := P6.out.bp.lt
    have HB6 := Lib.hid hb6
    clear hb6 q2 ql l0' ll
    go_wp2_with fail
    refine (SL1.out true _ HB6.out PS5.out.f2.fodR).mono ?_
    rintro e w7 ⟨rfl, hb7⟩
    have B7 := Lib.hid (B6.out.trans ((HB6.out.trans (hb7.mono HB6.out.size)).mono B6.out.size))
    clear hb7
    go_wp2_with fail
    go_ret
    exact ⟨rfl, B7.out⟩
  · skip
    go_wp2_with fail
    refine E0.out.mono ?_
    rintro e w6 ⟨rfl, rfl⟩
    go_wp2_with fail
    refine (SL0.out true PS5.out.f1.fodR).mono ?_
    rintro e w6 ⟨rfl, hb6⟩
    have P6 := Lib.hid (PS5.out.below hb6)
    have p1 := P6.out.bp.cell 1
    simp [parC] at p1
    have pl := P6.out.bp.lt
    have HB6 := Lib.hid hb6
    clear hb6 q2 ql l0' ll
    go_wp2_with fail
    refine (SL1.out true _ HB6.out PS5.out.f2.fodR).mono ?_
    rintro e w7 ⟨rfl, hb7⟩
    have B7 := Lib.hid (B6.out.trans ((HB6.out.trans (hb7.mono HB6.out.size)).mono B6.out.size))
    clear hb7
    go_wp2_with fail
    go_ret
    exact ⟨rfl, B7.out⟩
  · skip
    go_wp2_with fail
    refine E0.out.mono ?_
    rintro e w6 ⟨rfl, rfl⟩
    go_wp2_with fail
    refine (SL0.out true PS5.out.f1.fodR).mono ?_
    rintro e w6 ⟨rfl, hb6⟩
    have P6 := Lib.hid (PS5.out.below hb6)
    have p1 := P6.out.bp.cell 1
    simp [parC] at p1
    have pl := P6.out.bp.lt
    have HB6 := Lib.hid hb6
    clear hb6 q2 ql l0' ll
    go_wp2_with fail
    refine (SL1.out true _ HB6.out PS5.out.f2.fodR).mono ?_
    rintro e w7 ⟨rfl, hb7⟩
    have B7 := Lib.hid (B6.out.trans ((HB6.out.trans (hb7.mono HB6.out.size)).mono B6.out.size))
    clear hb7
    go_wp2_with fail
    go_ret
    exact ⟨rfl, B7.out⟩
end Go.Proofs.YtlaghkppjdphnaaFmt
