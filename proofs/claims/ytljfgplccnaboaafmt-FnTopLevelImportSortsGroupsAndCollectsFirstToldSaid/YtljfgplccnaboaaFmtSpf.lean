/- splitFodder over the fodders that occur. -/
import Derived.Test.YtljfgplccnaboaaFmtGrp
import Derived.Deep.AppendLies
namespace Go.Proofs.YtljfgplccnaboaaFmt
open Go.RowKit
set_option linter.unusedVariables false

theorem own_row {w : World} {base e size g n c : Nat} {xs : List Value} (h : w.ownsRow base e size (.slice (some ⟨g, 0, none⟩) n c) n xs) : ∃ rest, Blk w g e (xs ++ rest).toArray := by
  obtain ⟨hl, h⟩ := h
  rcases h with ⟨h, _⟩ | ⟨g', cap, cur, hv, hb, hh, h1, h2, h3, h4⟩
  · cases h
  · injection hv with hv hn hc
    injection hv with hv
    obtain rfl : g' = g := by injection hv with hv; exact hv.symm
    refine ⟨cur.toList.drop (n * size), ?_⟩
    unfold Blk
    rw [hh]
    congr 2
    rw [← h4, List.take_append_drop]
theorem bel_dn {B : Nat} {w w' : World} (h : Below B w w') (n : Nat) : Below B w (w'.drewN n) := ⟨h.os, h.tape, h.output, h.size, h.block⟩
def halfB : Option Nat → Option Nat
  | some (k + 1) => some (k + 1)
  | _ => none
def NewB (w w' : World) (b : Nat) : Prop := w.heap.size ≤ b ∧ b < w'.heap.size
def Halves (w : World) (o : Option Nat) (e : Ending) (w' : World) : Prop :=
  ∃ v1 v2, e = .returned (.tuple #[v1, v2]) ∧ FdV w' (NewB w w') v1 (o.map fun _ => 0) ∧ FdV w' (NewB w w') v2 (halfB o) ∧ Below w.heap.size w w'

set_option maxRecDepth 100000 in
set_option maxHeartbeats 3200000 in
theorem split32 (w : World) (S : Nat → Prop) (v : Value) (o : Option Nat) (hv : FdV w S v o) (ho : FK o) :
    Calls Tryf.prog 32 #[v] w (Halves w o) := by
  obtain ⟨i0, hi, hz0, hz1, hz2⟩ := info_parts infE
  have HI := Lib.hid hi
  have HZ0 := Lib.hid hz0
  have HZ1 := Lib.hid hz1
  have HZ2 := Lib.hid hz2
  clear hi hz0 hz1 hz2
  unfold Halves
  rcases ho with rfl | rfl | rfl
  · obtain rfl : v = _ := hv
    go_enter Tryf.func32, Tryf.ntmps32
    go_wp2_with fail
    go_rounds 1
    go_quiet (fail)
    go_wp2_with fail
    exact bodyPost_ret (v := .tuple #[.slice none 0 0, .slice none 0 0]) (by simp [results, Tryf.results32, go_sem]) rfl ⟨_, _, rfl, rfl, rfl, bel_dn ((Below.refl _ _).alloc (Nat.le_refl _) _) nq⟩
  · obtain ⟨g, c, rfl, _, ca, cc, rest, hg⟩ := hv
    obtain ⟨gl, z0, z1, z2, z3⟩ := fod_cells hg
    replace z2 : w.cell? ⟨g, 2, none⟩ = some (.int .i64 0) := z2
    clear hg
    have B0 := Lib.hid ((Blk.new (w.alloc (.cells #[.slice none 0 0] 44)) 81 #[.slice ca 0 cc, .int .i64 0, .int .i64 0, .int .i64 0]).alloc (.cells #[.slice ca 0 cc, .int .i64 0, .int .i64 0, .int .i64 0] 81))
    have P0 := Lib.hid (((Blk.new w 44 #[.slice none 0 0]).alloc (.cells #[.slice ca 0 cc, .int .i64 0, .int .i64 0, .int .i64 0] 81)).alloc (.cells #[.slice ca 0 cc, .int .i64 0, .int .i64 0, .int .i64 0] 81))
    have HB0 := Lib.hid ((((Below.refl w.heap.size w).alloc (Nat.le_refl _) (.cells #[.slice none 0 0] 44)).alloc (by simp) (.cells #[.slice ca 0 cc, .int .i64 0, .int .i64 0, .int .i64 0] 81)).alloc (by simp; omega) (.cells #[.slice ca 0 cc, .int .i64 0, .int .i64 0, .int .i64 0] 81))
    have hsz : (((w.alloc (.cells #[.slice none 0 0] 44)).alloc (.cells #[.slice ca 0 cc, .int .i64 0, .int .i64 0, .int .i64 0] 81)).alloc (.cells #[.slice ca 0 cc, .int .i64 0, .int .i64 0, .int .i64 0] 81)).heap.size = w.heap.size + 3 := by simp
    go_enter Tryf.func32, Tryf.ntmps32
    go_wp2_with fail
    refine wp_loop_rounds 2 ?_
    rw [rounds_succ]
    go_wp2_with (first | (with_reducible show wpList _ _ _ (⟨some 21, _, _, _, _, _⟩ :: _) _ _; refine of_hid ?_) | fail)
    refine Lib.hid ?_
    go_wp2_with (first | (with_reducible show wpList _ _ _ (⟨some 21, _, _, _, _, _⟩ :: _) _ _; refine of_hid ?_) | fail)
    refine Lib.hid ?_
    refine wpList_append_lies _ (o := ⟨some 21, _, _, _, _, _⟩) rfl (.tmp 18) (.tmp 20) 44 rfl 0 81 i0 _ 4 48 Tryf.underlying44 HI.out HZ0.out HZ1.out HZ2.out (by simp [Value.cells]) (by omega) (.slice none 0 0) 0 [] rfl (World.ownsRow_nil _ _ _ _) _ 1 1 [.slice ca 0 cc, .int .i64 0, .int .i64 0, .int .i64 0] rfl rfl (new_cellsN _ _ _ _ (by simp)) (by intro u hu; simp only [List.mem_cons, List.not_mem_nil, or_false] at hu; rcases hu with rfl | rfl | rfl | rfl <;> rfl) (by omega) (by unfold maxLen; omega) (by omega) (Nat.zero_le _) _ rfl ?_
    intro g2 cap2 w2 hown hgrow hw2 hlt2
    have hg2 : g2 = w.heap.size + 3 := by
      rcases hw2 with h | h
      · cases h
      · rw [h, hsz]
    have hsz2 := hgrow.size
    rw [hsz] at hsz2
    obtain ⟨rest2, hb2⟩ := own_row hown
    have hb2 : Blk w2 g2 81 (fodC ca cc 0 ++ rest2).toArray := hb2
    have hb3 := B0.out.grown hgrow (by intro e; cases e)
    have hb4 := P0.out.grown hgrow (by intro e; cases e)
    have hbe := HB0.out.grown hgrow (by rw [hsz]; omega) (by intro q hq; cases hq)
    rw [size1] at hb3
    clear hgrow hown hw2 B0 P0 HB0 hsz
    have y0 := hb3.cell 0
    have y1 := hb3.cell 1
    have y2 := hb3.cell 2
    have y3 := hb3.cell 3
    have yl := hb3.lt
    have p0 := hb4.cell 0
    have pl := hb4.lt
    simp at y0 y1 y2 y3 p0
    have H2 := Lib.hid hb2
    have HE := Lib.hid hbe
    clear hb2 hb3 hb4 hbe z0 z1 z2 z3
    go_wp2_with fail
    rw [rounds_succ]
    go_wp2_with fail
    go_quiet (fail)
    go_wp2_with fail
    exact bodyPost_ret (v := .tuple #[.slice (some ⟨g2, 0, none⟩) 1 cap2, .slice none 0 0]) (by simp [results, Tryf.results32, go_sem]) rfl ⟨_, _, rfl, ⟨g2, cap2, rfl, ⟨by omega, hlt2⟩, ca, cc, rest2, H2.out⟩, rfl, bel_dn HE.out _⟩
  · obtain ⟨g, c, rfl, _, ca, cc, rest, hg⟩ := hv
    obtain ⟨gl, z0, z1, z2, z3⟩ := fod_cells hg
    replace z2 : w.cell? ⟨g, 2, none⟩ = some (.int .i64 1) := z2
    clear hg
    have B0 := Lib.hid ((Blk.new (w.alloc (.cells #[.slice none 0 0] 44)) 81 #[.slice ca 0 cc, .int .i64 0, .int .i64 1, .int .i64 0]).alloc (.cells #[.slice ca 0 cc, .int .i64 0, .int .i64 1, .int .i64 0] 81))
    have P0 := Lib.hid (((Blk.new w 44 #[.slice none 0 0]).alloc (.cells #[.slice ca 0 cc, .int .i64 0, .int .i64 1, .int .i64 0] 81)).alloc (.cells #[.slice ca 0 cc, .int .i64 0, .int .i64 1, .int .i64 0] 81))
    have HB0 := Lib.hid ((((Below.refl w.heap.size w).alloc (Nat.le_refl _) (.cells #[.slice none 0 0] 44)).alloc (by simp) (.cells #[.slice ca 0 cc, .int .i64 0, .int .i64 1, .int .i64 0] 81)).alloc (by simp; omega) (.cells #[.slice ca 0 cc, .int .i64 0, .int .i64 1, .int .i64 0] 81))
    have hsz : (((w.alloc (.cells #[.slice none 0 0] 44)).alloc (.cells #[.slice ca 0 cc, .int .i64 0, .int .i64 1, .int .i64 0] 81)).alloc (.cells #[.slice ca 0 cc, .int .i64 0, .int .i64 1, .int .i64 0] 81)).heap.size = w.heap.size + 3 := by simp
    go_enter Tryf.func32, Tryf.ntmps32
    go_wp2_with fail
    refine wp_loop_rounds 2 ?_
    rw [rounds_succ]
    go_wp2_with (first | (with_reducible show wpList _ _ _ (⟨some 21, _, _, _, _, _⟩ :: _) _ _; refine of_hid ?_) | fail)
    refine Lib.hid ?_
    go_wp2_with (first | (with_reducible show wpList _ _ _ (⟨some 21, _, _, _, _, _⟩ :: _) _ _; refine of_hid ?_) | fail)
    refine Lib.hid ?_
    refine wpList_append_lies _ (o := ⟨some 21, _, _, _, _, _⟩) rfl (.tmp 18) (.tmp 20) 44 rfl 0 81 i0 _ 4 48 Tryf.underlying44 HI.out HZ0.out HZ1.out HZ2.out (by simp [Value.cells]) (by omega) (.slice none 0 0) 0 [] rfl (World.ownsRow_nil _ _ _ _) _ 1 1 [.slice ca 0 cc, .int .i64 0, .int .i64 1, .int .i64 0] rfl rfl (new_cellsN _ _ _ _ (by simp)) (by intro u hu; simp only [List.mem_cons, List.not_mem_nil, or_false] at hu; rcases hu with rfl | rfl | rfl | rfl <;> rfl) (by omega) (by unfold maxLen; omega) (by omega) (Nat.zero_le _) _ rfl ?_
    intro g2 cap2 w2 hown hgrow hw2 hlt2
    have hg2 : g2 = w.heap.size + 3 := by
      rcases hw2 with h | h
      · cases h
      · rw [h, hsz]
    have hsz2 := hgrow.size
    rw [hsz] at hsz2
    obtain ⟨rest2, hb2⟩ := own_row hown
    have hb2 : Blk w2 g2 81 (fodC ca cc 1 ++ rest2).toArray := hb2
    have hb3 := B0.out.grown hgrow (by intro e; cases e)
    have hb4 := P0.out.grown hgrow (by intro e; cases e)
    have hbe := HB0.out.grown hgrow (by rw [hsz]; omega) (by intro q hq; cases hq)
    rw [size1] at hb3
    clear hgrow hown hw2 B0 P0 HB0 hsz
    have y0 := hb3.cell 0
    have y1 := hb3.cell 1
    have y2 := hb3.cell 2
    have y3 := hb3.cell 3
    have yl := hb3.lt
    have p0 := hb4.cell 0
    have pl := hb4.lt
    simp at y0 y1 y2 y3 p0
    obtain ⟨g2l, q0, q1, q2, q3⟩ := fod_cells hb2
    have q2' : w2.cell? ⟨g2, 2, none⟩ = some (.int .i64 1) := q2
    have f2 := hb2.free 2
    have hb5 : Blk (w2.setCell ⟨g2, 2, none⟩ (.int .i64 0)) g2 81 (fodC ca cc 0 ++ rest2).toArray := by
      have := hb2.set 2 (.int .i64 0)
      simpa [fodC] using this
    have hb6 := hb3.far (p := ⟨g2, 2, none⟩) (by simp; omega) (.int .i64 0)
    have hb7 := hb4.far (p := ⟨g2, 2, none⟩) (by simp; omega) (.int .i64 0)
    have hbe2 := hbe.setCell (p := ⟨g2, 2, none⟩) (by simp; omega) (.int .i64 0)
    have hn1 : g2 ≠ w.heap.size := by omega
    have hn2 : g2 ≠ w.heap.size + 1 := by omega
    have HG2 := Lib.hid hg2
    have H5 := Lib.hid hb5
    have H6 := Lib.hid hb6
    have H7 := Lib.hid hb7
    have H8 := Lib.hid hbe2
    clear hg2 hb5 hb6 hb7 hbe2 hbe hb2 hb3 hb4 q2 q0 q1 q3 z0 z1 z2 z3
    go_wp2_with (first | (with_reducible show wpList _ _ _ (⟨some 38, _, _, _, _, _⟩ :: _) _ _; refine of_hid ?_) | fail)
    generalize w2.setCell ⟨g2, 2, none⟩ (.int .i64 0) = w3 at *
    have c3 := H7.out.cell 0
    have f3 := H7.out.free 0
    have pl3 := H7.out.lt
    have r0 := H6.out.cell 0
    have r1 := H6.out.cell 1
    have r2 := H6.out.cell 2
    have r3 := H6.out.cell 3
    have rl := H6.out.lt
    simp at c3 r0 r1 r2 r3
    have H7a := Lib.hid (H7.out.alloc (.cells #[.slice none 0 0, .int .i64 0, .int .i64 1, .int .i64 0] 81))
    have H5a := Lib.hid (H5.out.alloc (.cells #[.slice none 0 0, .int .i64 0, .int .i64 1, .int .i64 0] 81))
    have H6a := Lib.hid (H6.out.alloc (.cells #[.slice none 0 0, .int .i64 0, .int .i64 1, .int .i64 0] 81))
    have H8a := Lib.hid (H8.out.alloc H8.out.size (.cells #[.slice none 0 0, .int .i64 0, .int .i64 1, .int .i64 0] 81))
    have hs3 := H8.out.size
    clear y0 y1 y2 y3 p0 yl pl f2 q2' g2l
    refine Lib.hid ?_
    go_wp2_with (first | (with_reducible show wpList _ _ _ (⟨some 49, _, _, _, _, _⟩ :: _) _ _; refine of_hid ?_) | fail)
    refine Lib.hid ?_
    refine wpList_append_lies _ (o := ⟨some 49, _, _, _, _, _⟩) rfl (.tmp 42) (.tmp 48) 44 rfl 0 81 i0 _ 4 48 Tryf.underlying44 HI.out HZ0.out HZ1.out HZ2.out (by simp [Value.cells]) (by omega) (.slice none 0 0) 0 [] rfl (World.ownsRow_nil _ _ _ _) _ 1 1 [.slice none 0 0, .int .i64 0, .int .i64 1, .int .i64 0] rfl rfl (new_cellsN _ _ _ _ (by simp)) (by intro u hu; simp only [List.mem_cons, List.not_mem_nil, or_false] at hu; rcases hu with rfl | rfl | rfl | rfl <;> rfl) (by omega) (by unfold maxLen; omega) (by omega) (Nat.zero_le _) _ rfl ?_
    intro g4 cap4 w4 hown4 hgrow4 hw4 hlt4
    have hg4 : g4 = w3.heap.size + 1 := by
      rcases hw4 with h | h
      · cases h
      · rw [h, size1]
    obtain ⟨rest4, hb4⟩ := own_row hown4
    have hb4 : Blk w4 g4 81 (fodC none 0 1 ++ rest4).toArray := hb4
    have h7 := H7a.out.grown hgrow4 (by intro e; cases e)
    have h6 := H6a.out.grown hgrow4 (by intro e; cases e)
    have h5 := H5a.out.grown hgrow4 (by intro e; cases e)
    have hbe4 := H8a.out.grown hgrow4 (by rw [size1]; omega) (by intro q hq; cases hq)
    have c4 := h7.cell 0
    have f4 := h7.free 0
    have pl4 := h7.lt
    have s1 := h6.cell 1
    have s2 := h6.cell 2
    have sl := h6.lt
    simp at c4 s1 s2
    have hn4 : g4 ≠ w.heap.size := by omega
    have K1 := Lib.hid (hb4.far (p := ⟨w.heap.size, 0, none⟩) hn4 (.slice (some ⟨g4, 0, none⟩) 1 cap4))
    have K2 := Lib.hid (h5.far (p := ⟨w.heap.size, 0, none⟩) hn1 (.slice (some ⟨g4, 0, none⟩) 1 cap4))
    have K3 := Lib.hid (hbe4.setCell (p := ⟨w.heap.size, 0, none⟩) (Nat.le_refl _) (.slice (some ⟨g4, 0, none⟩) 1 cap4))
    have HN4 := Lib.hid hn4
    have HG4 := Lib.hid hg4
    clear hb4 h7 h6 h5 hbe4 hown4 hgrow4 hw4 hg4 c3 f3 pl3 r0 r1 r2 r3 rl
    go_wp2_with fail
    rw [rounds_succ]
    go_wp2_with fail
    go_quiet (fail)
    go_wp2_with fail
    have e2 := HG2.out
    have e4 := HG4.out
    exact bodyPost_ret (v := .tuple #[.slice (some ⟨g2, 0, none⟩) 1 cap2, .slice (some ⟨g4, 0, none⟩) 1 cap4]) (by simp [results, Tryf.results32, go_sem]) rfl ⟨_, _, rfl, ⟨g2, cap2, rfl, ⟨by omega, by have := K2.out.lt; simpa using this⟩, ca, cc, rest2, K2.out⟩, ⟨g4, cap4, rfl, ⟨by omega, by have := K1.out.lt; simpa using this⟩, none, 0, rest4, K1.out⟩, bel_dn K3.out _⟩
end Go.Proofs.YtljfgplccnaboaaFmt
