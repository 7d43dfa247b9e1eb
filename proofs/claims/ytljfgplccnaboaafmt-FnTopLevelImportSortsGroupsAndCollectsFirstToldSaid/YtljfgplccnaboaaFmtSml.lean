/- The small export functions. -/
import Derived.Test.YtljfgplccnaboaaFmtExt
namespace Go.Proofs.YtljfgplccnaboaaFmt
open Go.RowKit
set_option linter.unusedVariables false

set_option maxRecDepth 100000 in
theorem key17 (w : World) (g cg ib : Nat) (path var : ByteArray) : Calls Tryf.prog 17 #[.agg (mkI g cg ib path var).cells.toArray] w fun e w' => e = .returned (.string path) ∧ Below w.heap.size w w' := by
  simp only [mkI, IE.cells, bvOf]
  go_enter Tryf.func17, Tryf.ntmps17
  go_wp2
  go_ret
  exact ⟨rfl, by go_grown⟩
set_option maxRecDepth 100000 in
theorem var18 (w : World) (g cg ib : Nat) (path var : ByteArray) : Calls Tryf.prog 18 #[.agg (mkI g cg ib path var).cells.toArray] w fun e w' => e = .returned (.string var) ∧ Below w.heap.size w w' := by
  simp only [mkI, IE.cells, bvOf]
  go_enter Tryf.func18, Tryf.ntmps18
  go_wp2
  go_ret
  exact ⟨rfl, by go_grown⟩
theorem extr26 (w : World) (S : Nat → Prop) (gb ib sb : Nat) (path var : ByteArray) (fv : Value) (o : Option Nat) (h2 : Blk w gb 53 (bindC ib var).toArray) (h3 : Blk w ib 74 (impC sb).toArray) (h4 : Blk w sb 72 (litC path).toArray) (hv : FdV w S fv o) (ho : o = none ∨ o = some 0) :
    Calls Tryf.prog 26 #[.slice (some ⟨gb, 0, none⟩) 1 1, fv] w (Extr w fv o ib path var) := by
  have K := Lib.hid (extr34 w S gb ib sb path var fv o h2 h3 h4 hv ho)
  clear h2 h3 h4 hv ho
  unfold Extr at K ⊢
  go_enter Tryf.func26, Tryf.ntmps26
  go_wp2_with fail
  refine K.out.mono ?_
  rintro e w1 ⟨R, c, rest, g, cg, rfl, h⟩
  have H := Lib.hid h
  clear h K
  go_wp2_with fail
  go_ret
  exact ⟨R, c, rest, g, cg, rfl, H.out⟩
theorem good20l (w : World) (lb gb ib : Nat) (var : ByteArray) (body fv : Value) (h1 : Blk w lb 78 (locC gb body fv).toArray) (h2 : Blk w gb 53 (bindC ib var).toArray) :
    Calls Tryf.prog 20 #[locV lb] w fun e w' => e = .returned (.pointer (some ⟨lb, 0, none⟩)) ∧ Below w.heap.size w w' := by
  have K := Lib.hid (good29l w lb gb ib var body fv h1 h2)
  clear h1 h2
  unfold locV at K ⊢
  go_enter Tryf.func20, Tryf.ntmps20
  go_wp2_with fail
  refine K.out.mono ?_
  rintro e w1 ⟨rfl, hb⟩
  have HB := Lib.hid hb
  clear hb
  go_wp2_with fail
  go_ret
  exact ⟨rfl, HB.out⟩
end Go.Proofs.YtljfgplccnaboaaFmt
