/- extractImportElems over one bind. -/
import Derived.Test.YtljfgplccnaboaaFmtEns
namespace Go.Proofs.YtljfgplccnaboaaFmt
open Go.RowKit
set_option linter.unusedVariables false

theorem infI : (Tryf.prog.info? 55).map (fun i => (i.zero, i.size, i.bytes)) = some (some (.agg (IE.cells ⟨none, 0, 0, ⟨#[]⟩, none, 0, 0, none, ⟨#[]⟩⟩).toArray), 14, 208) := by kernel_rfl
def mkI (g cg ib : Nat) (path var : ByteArray) : IE := ⟨some ⟨g, 0, none⟩, 1, cg, path, none, 0, 0, some ib, var⟩
def Extr (w : World) (fv : Value) (o : Option Nat) (ib : Nat) (path var : ByteArray) (e : Ending) (w' : World) : Prop :=
  ∃ R c rest g cg, e = .returned (.slice (some ⟨R, 0, none⟩) 1 c) ∧ NewB w w' R ∧ Blk w' R 55 (cellsI [mkI g cg ib path var] ++ rest).toArray ∧ FdB w' g 0 ∧ (o = none → NewB w w' g ∧ g ≠ R) ∧ (o ≠ none → fv = .slice (some ⟨g, 0, none⟩) 1 cg) ∧ Below w.heap.size w w'

set_option maxRecDepth 100000 in
set_option maxHeartbeats 6400000 in
theorem extr34 (w : World) (S : Nat → Prop) (gb ib sb : Nat) (path var : ByteArray) (fv : Value) (o : Option Nat) (h2 : Blk w gb 53 (bindC ib var).toArray) (h3 : Blk w ib 74 (impC sb).toArray) (h4 : Blk w sb 72 (litC path).toArray) (hv : FdV w S fv o) (ho : o = none ∨ o = some 0) :
    Calls Tryf.prog 34 #[.slice (some ⟨gb, 0, none⟩) 1 1, fv] w (Extr w fv o ib path var) := by
  unfold Extr
  obtain ⟨i0, hi, hz0, hz1, hz2⟩ := info_parts infI
  have HI := Lib.hid hi
  have HZ0 := Lib.hid hz0
  have HZ1 := Lib.hid hz1
  have HZ2 := Lib.hid hz2
  obtain ⟨l2, x0, x1, x2, x3, x4, x5, x6, x7, x8, x9, x10, x11⟩ := bind_cells _ _ h2
  have hfs : ∃ fa fl fc, fv = .slice fa fl fc := by
    cases o with
    | none => exact ⟨_, _, _, hv⟩
    | some k => obtain ⟨g, c, rfl, _⟩ := hv; exact ⟨_, _, _, rfl⟩
  obtain ⟨fa, fl, fc, rfl⟩ := hfs
  have hN0 : Blk ((w.alloc (.cells #[.slice none 0 0, .iface 68 (.pointer (some ⟨ib, 0, none⟩)), .slice none 0 0, .string var, .slice none 0 0, .pointer none, .pointer none, .string ⟨#[]⟩, .int .i64 0, .int .i64 0, .int .i64 0, .int .i64 0] 53)).alloc (.cells #[.slice fa fl fc] 44)) w.heap.size 53 (bindC ib var).toArray := (Blk.new w 53 #[.slice none 0 0, .iface 68 (.pointer (some ⟨ib, 0, none⟩)), .slice none 0 0, .string var, .slice none 0 0, .pointer none, .pointer none, .string ⟨#[]⟩, .int .i64 0, .int .i64 0, .int .i64 0, .int .i64 0]).alloc _
  have hN1 : Blk ((w.alloc (.cells #[.slice none 0 0, .iface 68 (.pointer (some ⟨ib, 0, none⟩)), .slice none 0 0, .string var, .slice none 0 0, .pointer none, .pointer none, .string ⟨#[]⟩, .int .i64 0, .int .i64 0, .int .i64 0, .int .i64 0] 53)).alloc (.cells #[.slice fa fl fc] 44)) (w.heap.size + 1) 44 #[.slice fa fl fc] := by
    have := Blk.new (w.alloc (.cells #[.slice none 0 0, .iface 68 (.pointer (some ⟨ib, 0, none⟩)), .slice none 0 0, .string var, .slice none 0 0, .pointer none, .pointer none, .string ⟨#[]⟩, .int .i64 0, .int .i64 0, .int .i64 0, .int .i64 0] 53)) 44 #[.slice fa fl fc]
    rwa [size1] at this
  have hF0 := ((Fr.refl w (fun _ => False)).alloc (.cells #[.slice none 0 0, .iface 68 (.pointer (some ⟨ib, 0, none⟩)), .slice none 0 0, .string var, .slice none 0 0, .pointer none, .pointer none, .string ⟨#[]⟩, .int .i64 0, .int .i64 0, .int .i64 0, .int .i64 0] 53)).alloc (.cells #[.slice fa fl fc] 44)
  have KE := Lib.hid (ens33 _ S _ _ o hN1 (hv.fr hF0 (fun _ _ h => h)))
  have N0 := Lib.hid hN0
  have F0 := Lib.hid hF0
  clear hN0 hN1 hF0
  have HV := Lib.hid hv
  have HO := Lib.hid ho
  have A3 := Lib.hid h3
  have A4 := Lib.hid h4
  clear hi hz0 hz1 hz2 h2 h3 h4 hv ho
  go_enter Tryf.func34, Tryf.ntmps34
  go_wp2_with fail
  refine wp_loop_rounds 2 ?_
  rw [rounds_succ]
  go_wp2_with fail
  refine KE.out.mono ?_
  rintro e w1 ⟨rfl, hf, v', hb, hn, hs⟩
  have hF1 : Fr w w1 (fun _ => False) := F0.out.step hf (fun b hb h => by omega)
  have hsz : w.heap.size + 2 ≤ w1.heap.size := by have := hf.size; simp at this; omega
  obtain ⟨g, cg, rfl, hg, hg1, hg2⟩ : ∃ g cg, v' = .slice (some ⟨g, 0, none⟩) 1 cg ∧ FdB w1 g 0 ∧ (o = none → w.heap.size ≤ g ∧ g < w1.heap.size) ∧ (o ≠ none → Value.slice fa fl fc = .slice (some ⟨g, 0, none⟩) 1 cg) := by
    rcases HO.out with rfl | rfl
    · obtain ⟨g, c, rfl, hS, hg⟩ := hn rfl
      exact ⟨g, c, rfl, hg, fun _ => ⟨by have := hS.1; simp at this; omega, hS.2⟩, fun h => absurd rfl h⟩
    · have := hs (by intro h; cases h)
      subst this
      obtain ⟨g, c, h1, hS, hg⟩ := HV.out
      refine ⟨g, c, h1, hg.fr hF1 (fun h => h), ?_, fun _ => h1⟩
      intro h
      cases h
  have m0 := hf.blk N0.out (by intro e; omega)
  have m3 := hF1.blk A3.out (fun h => h)
  have m4 := hF1.blk A4.out (fun h => h)
  obtain ⟨ml, y0, y1, y2, y3, y4, y5, y6, y7, y8, y9, y10, y11⟩ := bind_cells _ _ m0
  obtain ⟨il, i0', _⟩ := imp_cells _ m3
  obtain ⟨sl, s0', _⟩ := lit_cells _ m4
  have p0 := hb.cell 0
  simp at p0
  have pl := hb.lt
  have HG := Lib.hid hg
  have HG1 := Lib.hid hg1
  have HG2 := Lib.hid hg2
  have HF1 := Lib.hid hF1
  clear x0 x1 x2 x3 x4 x5 x6 x7 x8 x9 x10 x11 hb hn hs hf hg hg1 hg2 hF1 m0 m3 m4 KE HV N0 F0
  go_wp2_with fail
  have hF3 := Lib.hid ((((Fr.refl w1 (fun _ => False)).alloc (.cells #[.slice none 0 0, .iface 68 (.pointer (some ⟨ib, 0, none⟩)), .slice none 0 0, .string var, .slice none 0 0, .pointer none, .pointer none, .string ⟨#[]⟩, .int .i64 0, .int .i64 0, .int .i64 0, .int .i64 0] 53)).alloc (.cells #[.slice (some ⟨g, 0, none⟩) 1 cg, .string path, .slice none 0 0, .iface 68 (.pointer (some ⟨ib, 0, none⟩)), .slice none 0 0, .string var, .slice none 0 0, .pointer none, .pointer none, .string ⟨#[]⟩, .int .i64 0, .int .i64 0, .int .i64 0, .int .i64 0] 55)).drew)
  go_region_law (first | (refine step_append_lies _ rfl (.tmp 53) (.tmp 64) 41 rfl 0 55 i0 _ 14 208 Tryf.underlying41 HI.out HZ0.out HZ1.out HZ2.out (by simp [Value.cells, IE.cells]) (by omega) (.slice none 0 0) 0 [] rfl (World.ownsRow_nil _ _ _ _) _ 1 1 [.slice (some ⟨g, 0, none⟩) 1 cg, .string path, .slice none 0 0, .iface 68 (.pointer (some ⟨ib, 0, none⟩)), .slice none 0 0, .string var, .slice none 0 0, .pointer none, .pointer none, .string ⟨#[]⟩, .int .i64 0, .int .i64 0, .int .i64 0, .int .i64 0] rfl rfl (new_cellsN _ _ _ _ (by simp)) (by intro u hu; simp only [List.mem_cons, List.not_mem_nil, or_false] at hu; rcases hu with rfl | rfl | rfl | rfl | rfl | rfl | rfl | rfl | rfl | rfl | rfl | rfl | rfl | rfl <;> rfl) (by omega) (by unfold maxLen; omega) (by omega) (Nat.zero_le _) _ rfl ?_; intro g2 cap2 w2 hown hgrow hw2 hlt2))
  all_goals
    have hR : g2 = w1.heap.size + 2 := by
      rcases hw2 with h | h
      · cases h
      · rw [h]; simp
    obtain ⟨rest2, hb2⟩ := own_row hown
    have K1 := Lib.hid (show Blk w2 g2 55 (cellsI [mkI g cg ib path var] ++ rest2).toArray from hb2)
    have K2 := Lib.hid (hF3.out.grown hgrow (by intro q hq; cases hq))
    have KR := Lib.hid hR
    have HL2 := Lib.hid hlt2
    clear hown hgrow hw2 hb2 hF3 hR hlt2 y0 y1 y2 y3 y4 y5 y6 y7 y8 y9 y10 y11 i0' s0' p0
    go_wp2_with fail
    rw [rounds_succ]
    go_wp2_with fail
    go_ret
    have eR := KR.out
    have F4 := HF1.out.trans K2.out
    refine ⟨g2, cap2, rest2, g, cg, rfl, ⟨by omega, HL2.out⟩, K1.out, HG.out.fr K2.out (fun h => h), fun h => ⟨⟨(HG1.out h).1, Nat.lt_of_lt_of_le (HG1.out h).2 K2.out.size⟩, by have := (HG1.out h).2; omega⟩, HG2.out, ?_⟩
    exact ⟨F4.os, F4.tape, F4.output, F4.size, fun b hb => F4.block b hb (fun h => h)⟩
end Go.Proofs.YtljfgplccnaboaaFmt
