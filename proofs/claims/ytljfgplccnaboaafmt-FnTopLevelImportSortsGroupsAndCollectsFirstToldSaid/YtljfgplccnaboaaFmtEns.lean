/- FodderAppend, FodderEnsureCleanNewline, FodderConcat over the fodders that occur. -/
import Derived.Test.YtljfgplccnaboaaFmtSpf
namespace Go.Proofs.YtljfgplccnaboaaFmt
open Go.RowKit
set_option linter.unusedVariables false

theorem Fr.drewN {w w' : World} {X : Nat → Prop} (h : Fr w w' X) (n : Nat) : Fr w (w'.drewN n) X := ⟨h.os, h.tape, h.output, h.size, h.block⟩
set_option maxRecDepth 100000 in
theorem clean41n (w : World) : Calls Tryf.prog 41 #[.slice none 0 0] w fun e w' => e = .returned (.bool false) ∧ w = w' := by
  go_enter Tryf.func41, Tryf.ntmps41
  go_wp2
  go_ret
  exact ⟨rfl, rfl⟩
set_option maxRecDepth 100000 in
theorem clean41s (w : World) (g c : Nat) (hg : g < w.heap.size) (h1 : w.cell? ⟨g, 1, none⟩ = some (.int .i64 0)) : Calls Tryf.prog 41 #[.slice (some ⟨g, 0, none⟩) 1 c] w fun e w' => e = .returned (.bool true) ∧ w = w' := by
  go_enter Tryf.func41, Tryf.ntmps41
  go_wp2
  go_ret
  exact ⟨rfl, rfl⟩
set_option maxRecDepth 100000 in
theorem make42 (w : World) (a : Option Addr) (c : Nat) : Calls Tryf.prog 42 #[.int .i64 0, .int .i64 0, .int .i64 0, .slice a 0 c] w fun e w' => e = .returned (.agg #[.slice a 0 c, .int .i64 0, .int .i64 0, .int .i64 0]) ∧ w.alloc (.cells #[.slice a 0 c, .int .i64 0, .int .i64 0, .int .i64 0] 81) = w' := by
  go_enter Tryf.func42, Tryf.ntmps42
  go_wp2
  exact bodyPost_ret (v := .agg #[.slice a 0 c, .int .i64 0, .int .i64 0, .int .i64 0]) (by simp [results, Tryf.results42, go_sem]) rfl ⟨rfl, rfl⟩

def App1 (w : World) (p : Nat) (e : Ending) (w' : World) : Prop := e = .returned (.tuple #[]) ∧ Fr w w' (fun b => b = p) ∧ ∃ v, Blk w' p 44 #[v] ∧ FdV w' (NewB w w') v (some 0)
set_option maxRecDepth 100000 in
set_option maxHeartbeats 6400000 in
theorem app40n (w : World) (p : Nat) (h : Blk w p 44 #[.slice none 0 0]) (ca : Option Addr) (cc : Nat) :
    Calls Tryf.prog 40 #[.pointer (some ⟨p, 0, none⟩), .agg #[.slice ca 0 cc, .int .i64 0, .int .i64 0, .int .i64 0]] w (App1 w p) := by
  unfold App1
  obtain ⟨i0, hi, hz0, hz1, hz2⟩ := info_parts infE
  have HI := Lib.hid hi
  have HZ0 := Lib.hid hz0
  have HZ1 := Lib.hid hz1
  have HZ2 := Lib.hid hz2
  have c0 := h.cell 0
  simp at c0
  have f0 := h.free 0
  have pl := h.lt
  have KCL := Lib.hid (clean41n (w.alloc (.cells #[.slice ca 0 cc, .int .i64 0, .int .i64 0, .int .i64 0] 81)))
  have H2 := Lib.hid (((h.alloc (.cells #[.slice ca 0 cc, .int .i64 0, .int .i64 0, .int .i64 0] 81)).alloc (.cells #[.slice ca 0 cc, .int .i64 0, .int .i64 0, .int .i64 0] 81)).drew)
  have F2 := Lib.hid ((((Fr.refl w (fun b => b = p)).alloc (.cells #[.slice ca 0 cc, .int .i64 0, .int .i64 0, .int .i64 0] 81)).alloc (.cells #[.slice ca 0 cc, .int .i64 0, .int .i64 0, .int .i64 0] 81)).drew)
  clear hi hz0 hz1 hz2 h
  go_enter Tryf.func40, Tryf.ntmps40
  go_wp2_with fail
  refine KCL.out.mono ?_
  rintro e w1 ⟨rfl, rfl⟩
  go_wp2_with fail
  refine KCL.out.mono ?_
  rintro e w1 ⟨rfl, rfl⟩
  go_wp2_with fail
  go_region_law (first | (refine step_append_lies _ rfl (.tmp 79) (.tmp 81) 44 rfl 0 81 i0 _ 4 48 Tryf.underlying44 HI.out HZ0.out HZ1.out HZ2.out (by simp [Value.cells]) (by omega) (.slice none 0 0) 0 [] rfl (World.ownsRow_nil _ _ _ _) _ 1 1 [.slice ca 0 cc, .int .i64 0, .int .i64 0, .int .i64 0] rfl rfl (new_cellsN _ _ _ _ (by simp)) (by intro u hu; simp only [List.mem_cons, List.not_mem_nil, or_false] at hu; rcases hu with rfl | rfl | rfl | rfl <;> rfl) (by omega) (by unfold maxLen; omega) (by omega) (Nat.zero_le _) _ rfl ?_; intro g2 cap2 w2 hown hgrow hw2 hlt2; have b2 := H2.out.grown hgrow (by intro e; cases e); have c2 := b2.cell 0; have f2 := b2.free 0; have l2 := b2.lt; simp at c2))
  all_goals
    have hg2 : g2 = w.heap.size + 2 := by
      rcases hw2 with h | h
      · cases h
      · rw [h]; simp
    obtain ⟨rest2, hb2⟩ := own_row hown
    have K1 := Lib.hid (show Blk w2 g2 81 (fodC ca cc 0 ++ rest2).toArray from hb2)
    have K2 := Lib.hid (F2.out.grown hgrow (by intro q hq; cases hq))
    have K3 := Lib.hid b2
    have KG := Lib.hid hg2
    have hgp : g2 ≠ p := by omega
    have HGP := Lib.hid hgp
    clear hown hgrow hw2 c2 f2 b2 hb2 hg2 hgp
    go_wp2
    go_end0
    have e2 := KG.out
    have t1 := K1.out.far (p := ⟨p, 0, none⟩) HGP.out (.slice (some ⟨g2, 0, none⟩) (0 + 1) cap2)
    have t2 := K3.out.set 0 (.slice (some ⟨g2, 0, none⟩) (0 + 1) cap2)
    refine ⟨rfl, K2.out.setCell ⟨p, 0, none⟩ _ (.inl rfl), .slice (some ⟨g2, 0, none⟩) 1 cap2, by simpa using t2, g2, cap2, rfl, ⟨by omega, t1.lt⟩, ca, cc, rest2, t1⟩

set_option maxRecDepth 100000 in
set_option maxHeartbeats 6400000 in
theorem merge40 (w : World) (p g c k b : Nat) (v0 : Option Addr) (vc : Nat) (rest : List Value) (h : Blk w p 44 #[.slice (some ⟨g, 0, none⟩) 1 c]) (hg : Blk w g 81 (fodC v0 vc k ++ rest).toArray) (hk : k ≤ 1) (hb : b ≤ 1) (ca : Option Addr) (cc : Nat) :
    Calls Tryf.prog 40 #[.pointer (some ⟨p, 0, none⟩), .agg #[.slice ca 0 cc, .int .i64 0, .int .i64 b, .int .i64 0]] w fun e w' => e = .returned (.tuple #[]) ∧ Fr w w' (fun b => b = g) ∧ Blk w' g 81 (fodC v0 vc (k + b) ++ rest).toArray := by
  obtain ⟨gl, z0, z1, z2, z3⟩ := fod_cells hg
  have c0 := h.cell 0
  simp at c0
  have f0 := h.free 0
  have pl := h.lt
  have hgp : g ≠ p := by
    intro e
    subst e
    have := h
    unfold Blk at this hg
    rw [hg] at this
    simp at this
  have KCL := Lib.hid (clean41s (w.alloc (.cells #[.slice ca 0 cc, .int .i64 0, .int .i64 b, .int .i64 0] 81)) g c (by simp; omega) (((hg.alloc _).cell 1).trans (by simp [fodC])))
  have H0 := Lib.hid hg
  have fx3 := hg.free 3
  have fx2 := hg.free 2
  have F0 := Lib.hid ((Fr.refl w (fun b => b = g)).alloc (.cells #[.slice ca 0 cc, .int .i64 0, .int .i64 b, .int .i64 0] 81))
  have H1 := Lib.hid (hg.alloc (.cells #[.slice ca 0 cc, .int .i64 0, .int .i64 b, .int .i64 0] 81))
  have B0 := Lib.hid (Blk.new w 81 #[.slice ca 0 cc, .int .i64 0, .int .i64 b, .int .i64 0])
  have hgs : g ≠ w.heap.size := by omega
  have gl1 : g < w.heap.size + 1 := by omega
  have pl1 : p < w.heap.size + 1 := by omega
  clear h hg
  go_enter Tryf.func40, Tryf.ntmps40
  go_wp2_with fail
  refine KCL.out.mono ?_
  rintro e w1 ⟨rfl, rfl⟩
  go_wp2_with fail
  go_quiet (fail)
  go_wp2_with fail
  have H2 := Lib.hid (H1.out.drewN nq)
  have F2 := Lib.hid (F0.out.drewN nq)
  have B2 := Lib.hid (B0.out.drewN nq)
  generalize (w.alloc (.cells #[.slice ca 0 cc, .int .i64 0, .int .i64 b, .int .i64 0] 81)).drewN nq = W at *
  have H3 : Hid (Blk (W.setCell ⟨g, 3, none⟩ (.int .i64 0)) g 81 (fodC v0 vc k ++ rest).toArray) := Lib.hid (by
    have := H2.out.set 3 (.int .i64 0)
    simpa [fodC] using this)
  have F3 := Lib.hid (F2.out.setCell ⟨g, 3, none⟩ (.int .i64 0) (.inl rfl))
  have B3 := Lib.hid (B2.out.far (p := ⟨g, 3, none⟩) (fun e => hgs e.symm) (.int .i64 0))
  generalize W.setCell ⟨g, 3, none⟩ (.int .i64 0) = W1 at *
  obtain ⟨gl4, _, _, y2, _⟩ := fod_cells H3.out
  have fy2 := H3.out.free 2
  have bl2 := B3.out.cell 2
  simp at bl2
  have bll := B3.out.lt
  clear z0 z1 z2 z3 fx2 fx3 c0 f0 KCL F0 B0 H0 H1
  refine wp_region_tail 9 (by kernel_rfl) (by kernel_rfl) ?_
  repeat still_step
  refine wpStill_nil ?_
  go_wp2
  go_end0
  have t1 := H3.out.set 2 (.int .i64 ((k : Int) + (b : Int)))
  exact ⟨rfl, (F3.out.setCell ⟨g, 2, none⟩ _ (.inl rfl)).drew, by have t2 := t1.drew; simpa [fodC] using t2⟩

def Ensd (w : World) (p : Nat) (v : Value) (o : Option Nat) (e : Ending) (w' : World) : Prop := e = .returned (.tuple #[]) ∧ Fr w w' (fun b => b = p) ∧ ∃ v', Blk w' p 44 #[v'] ∧ (o = none → FdV w' (NewB w w') v' (some 0)) ∧ (o ≠ none → v = v')
set_option maxRecDepth 100000 in
set_option maxHeartbeats 1600000 in
theorem ens33 (w : World) (S : Nat → Prop) (p : Nat) (v : Value) (o : Option Nat) (h : Blk w p 44 #[v]) (hv : FdV w S v o) :
    Calls Tryf.prog 33 #[.pointer (some ⟨p, 0, none⟩)] w (Ensd w p v o) := by
  unfold Ensd
  have c0 := h.cell 0
  simp at c0
  have pl := h.lt
  have HP := Lib.hid h
  cases o with
  | none =>
    obtain rfl : v = _ := hv
    have KCL := Lib.hid (clean41n w)
    have KM := Lib.hid (make42 (w.alloc (.cells #[] 9)) (some ⟨w.heap.size, 0, none⟩) 0)
    have KA := Lib.hid (app40n ((w.alloc (.cells #[] 9)).alloc (.cells #[.slice (some ⟨w.heap.size, 0, none⟩) 0 0, .int .i64 0, .int .i64 0, .int .i64 0] 81)) p ((h.alloc _).alloc _) (some ⟨w.heap.size, 0, none⟩) 0)
    clear h
    go_enter Tryf.func33, Tryf.ntmps33
    go_wp2_with fail
    refine KCL.out.mono ?_
    rintro e w1 ⟨rfl, rfl⟩
    go_wp2_with fail
    refine KM.out.mono ?_
    rintro e w1 ⟨rfl, rfl⟩
    go_wp2_with fail
    refine KA.out.mono ?_
    rintro e w3 ⟨rfl, hf, v, hb, hv⟩
    have F := Lib.hid ((((Fr.refl w (fun b => b = p)).alloc (.cells #[] 9)).alloc (.cells #[.slice (some ⟨w.heap.size, 0, none⟩) 0 0, .int .i64 0, .int .i64 0, .int .i64 0] 81)).trans hf)
    have HB := Lib.hid hb
    have HV := Lib.hid (FdV.sub hv (T := NewB w w3) (fun b hb => ⟨by have := hb.1; simp at this; omega, hb.2⟩))
    clear hf hb hv KA KM KCL
    go_wp2_with fail
    go_end0
    exact ⟨rfl, F.out, v, HB.out, fun _ => HV.out, fun h => absurd rfl h⟩
  | some k =>
    obtain ⟨g, c, rfl, _, ca, cc, rest, hg⟩ := hv
    obtain ⟨gl, z0, z1, z2, z3⟩ := fod_cells hg
    have KCL := Lib.hid (clean41s w g c gl z1)
    clear h hg
    go_enter Tryf.func33, Tryf.ntmps33
    go_wp2_with fail
    refine KCL.out.mono ?_
    rintro e w1 ⟨rfl, rfl⟩
    go_wp2_with fail
    go_end0
    refine ⟨rfl, Fr.refl _ _, .slice (some ⟨g, 0, none⟩) 1 c, HP.out, ?_, fun _ => rfl⟩
    intro h
    cases h

set_option maxRecDepth 100000 in
set_option maxHeartbeats 1600000 in
theorem concat37 (w : World) (ga cga gb cgb b : Nat) (ha : FdB w ga 0) (hb : FdB w gb b) (hb1 : b ≤ 1) :
    Calls Tryf.prog 37 #[.slice (some ⟨ga, 0, none⟩) 1 cga, .slice (some ⟨gb, 0, none⟩) 1 cgb] w fun e w' => e = .returned (.slice (some ⟨ga, 0, none⟩) 1 cga) ∧ Fr w w' (fun b => b = ga) ∧ FdB w' ga b := by
  obtain ⟨a0, a1, ar, ha⟩ := ha
  obtain ⟨b0, b1, br, hb⟩ := hb
  obtain ⟨gl, z0, z1, z2, z3⟩ := fod_cells hb
  have F := Lib.hid ((Fr.refl w (fun b => b = ga)).alloc (.cells #[.slice (some ⟨ga, 0, none⟩) 1 cga] 44))
  have hgl := ha.lt
  have N := Lib.hid (Blk.new w 44 #[.slice (some ⟨ga, 0, none⟩) 1 cga])
  have KM := Lib.hid (merge40 (w.alloc (.cells #[.slice (some ⟨ga, 0, none⟩) 1 cga] 44)) w.heap.size ga cga 0 b a0 a1 ar (Blk.new _ _ _) (ha.alloc _) (by omega) hb1 b0 b1)
  clear ha hb
  go_enter Tryf.func37, Tryf.ntmps37
  go_wp2_with fail
  refine KM.out.mono ?_
  rintro e w1 ⟨rfl, hf, hg⟩
  have c0 := (hf.blk N.out (by intro e; omega)).cell 0
  have cl := (hf.blk N.out (by intro e; omega)).lt
  simp at c0
  have F2 := Lib.hid (F.out.trans hf)
  have G2 := Lib.hid hg
  clear hf hg KM
  go_wp2_with fail
  go_rounds 1
  go_ret
  exact ⟨rfl, F2.out, a0, a1, ar, by simpa using G2.out⟩
end Go.Proofs.YtljfgplccnaboaaFmt
