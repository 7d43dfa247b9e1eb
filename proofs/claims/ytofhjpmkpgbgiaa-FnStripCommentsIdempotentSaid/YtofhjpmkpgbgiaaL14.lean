/- The walk of the law that stripping comments twice is stripping them once. -/
import Derived.Test.YtofhjpmkpgbgiaaEqu
import Derived.Test.YtofhjpmkpgbgiaaGrd
import Derived.Test.YtofhjpmkpgbgiaaSiz
namespace Go.Proofs.Ytofhjpmkpgbgiaa
open Go.RowKit
set_option linter.unusedVariables false

theorem strip_strip (es : List LE) : strip (strip es) = strip es := by
  unfold strip
  induction es with
  | nil => rfl
  | cons e es ih =>
    rw [List.filter_cons]
    split
    · rename_i h
      simp only [List.map_cons]
      rw [List.filter_cons, if_pos h, List.map_cons, ih]
    · exact ih

set_option maxRecDepth 100000 in
set_option maxHeartbeats 3200000 in
theorem law14 (a : Option Addr) (n c : Nat) (zs : List ZE) (w : World) (h : IsZs w a n c zs) : Calls Try.prog 3 #[.slice a n c] w fun e w' => e = .returned (.bool true) ∧ Below w.heap.size w w' := by
  have G := Lib.hid (guard9 w a n c zs h)
  have SZ := Lib.hid (size_any w a n c zs h)
  have H := Lib.hid h
  clear h
  go_enter Try.func3, Try.ntmps3
  go_wp2_with fail
  refine G.out.mono ?_
  rintro e w1 ⟨r, rfl, rfl, hr⟩
  cases r
  · go_wp2_with fail
    go_ret
    exact ⟨rfl, Below.refl _ _⟩
  have HR := Lib.hid (hr rfl)
  clear hr G
  go_wp2_with fail
  refine SZ.out.mono ?_
  rintro e w1 ⟨m, rfl, rfl, hm⟩
  clear SZ
  by_cases hm2 : 1048576 < m
  · go_wp2_with fail
    go_ret
    exact ⟨rfl, Below.refl _ _⟩
  have hz := HR.out (n, zs) (by simp)
  have T := Lib.hid (tofod_any w a n c zs H.out hz.1 hz.2)
  clear HR H hz
  generalize inF a zs = f at *
  go_wp2_with fail
  refine T.out.mono ?_
  rintro e w1 ⟨v, rfl, hv, hb⟩
  obtain ⟨x, cx, rfl, hle, _, _⟩ := hv.open
  generalize (f.getD []).length = lx at *
  have HB := Lib.hid hb
  have HV := Lib.hid hv
  clear hv hb T
  go_wp2_with fail
  generalize hW : (w1.alloc (.cells #[.slice x lx cx] 26)).alloc (.cells #[] 32) = W at *
  have hWs : W.heap.size = w1.heap.size + 1 + 1 := by rw [← hW]; simp
  have hBW : Below w.heap.size w W := by rw [← hW]; exact (HB.out.alloc HB.out.size _).alloc (by have := HB.out.size; simp; omega) _
  have hAW : Agree (New w w1) w1 W := by rw [← hW]; exact (Agree.alloc _ _ _ fun b h => h.2).trans (Agree.alloc _ _ _ fun b h => by have := h.2; simp; omega)
  have hp : Blk W w1.heap.size 26 #[.slice x lx cx] := by rw [← hW]; exact (Blk.new w1 _ _).alloc _
  have hws := HB.out.size
  refine (strip_any W _ _ _ (New w w1) f hp (HV.out.keep hAW) (fun b h => by have := h.2; omega)).mono ?_
  rintro e w2 ⟨rfl, v', hp2, hf2, hg2⟩
  have hb2 : Below w.heap.size w w2 := hBW.grown hg2 (by omega) (by intro q hq; injection hq with hq; omega)
  obtain ⟨x2, cx2, rfl, hle2, hfi2⟩ := hf2
  clear hp hAW hBW HV HB hW
  generalize hl2 : (strip (f.getD [])).length = l2 at *
  have hf2 : FodV w2 (Old w2) (.slice (some x2) l2 cx2) (some (strip (f.getD []))) := ⟨x2, cx2, by rw [hl2], by omega, hfi2.sub fun b h => h.2⟩
  have c2 := hp2.cell 0
  simp at c2
  have hg2s := hg2.size
  have C := Lib.hid (clonef_any w2 _ _ hf2)
  have HP2 := Lib.hid hp2
  have HB2 := Lib.hid hb2
  have HF2 := Lib.hid hfi2
  have HL2 := Lib.hid hl2
  clear hp2 hf2 hg2 hb2 hfi2 hl2
  go_wp2_with fail
  refine C.out.mono ?_
  rintro e w3 ⟨v3, rfl, hf3, hb3⟩
  obtain ⟨x3, cx3, hv3, hle3, hfi3⟩ := hf3
  rw [HL2.out] at hv3 hle3
  subst hv3
  have HP3 := Lib.hid (HP2.out.under hb3)
  have HB3 := Lib.hid (HB2.out.trans (hb3.mono HB2.out.size))
  have HF23 := Lib.hid (show FodV w3 (New W w2) (.slice (some x2) l2 cx2) (some (strip (f.getD []))) from ⟨x2, cx2, by rw [HL2.out], by rw [HL2.out]; exact hle2, HF2.out.keep (Agree.of_below hb3 fun b h => h.2)⟩)
  have HF3 := Lib.hid (show FodV w3 (New w2 w3) (.slice (some x3) l2 cx3) (some (strip (f.getD []))) from ⟨x3, cx3, by rw [HL2.out], by rw [HL2.out]; exact hle3, hfi3⟩)
  have hs3 := hb3.size
  clear C HP2 HB2 HF2 hb3 hfi3
  go_wp2_with fail
  refine (strip_any w3 _ _ _ (New W w2) _ HP3.out HF23.out (fun b h => Nat.lt_of_lt_of_le h.2 hs3)).mono ?_
  rintro e w4 ⟨rfl, v4, hp4, hf4, hg4⟩
  rw [Option.getD_some, strip_strip] at hf4
  have HB4 := Lib.hid (HB3.out.grown hg4 HB3.out.size (by intro q hq; injection hq with hq; omega))
  have hf34 : FodV w4 (Old w4) (.slice (some x3) l2 cx3) (some (strip (f.getD []))) := (HF3.out.keep (Agree.of_grown hg4 fun b h => ⟨h.2, by have := h.1; simp; omega⟩)).sub fun b h => Nat.lt_of_lt_of_le h.2 hg4.size
  have hf44 : FodV w4 (Old w4) v4 (some (strip (f.getD []))) := hf4.sub fun b h => h.2
  have E := Lib.hid (fod_eq w4 _ _ _ _ hf34 hf44 rfl)
  obtain ⟨x4, cx4, hv4, hle4, _⟩ := hf4
  rw [HL2.out] at hv4 hle4
  subst hv4
  have c4 := hp4.cell 0
  simp at c4
  have n3 : ∀ W, (binOp .neq 26 (.slice (some x3) l2 cx3) (.slice none 0 0)).run Try.prog W = .ok (.bool true) W := fun W => by kernel_rfl
  have n4 : ∀ W, (binOp .neq 26 (.slice (some x4) l2 cx4) (.slice none 0 0)).run Try.prog W = .ok (.bool true) W := fun W => by kernel_rfl
  clear hp4 hg4 hf34 hf44 HP3 HF23 HF3 HB3 c2
  go_wp2_with fail
  refine E.out.mono ?_
  rintro e w5 ⟨rfl, hb5⟩
  have HB5 := Lib.hid (HB4.out.trans (hb5.mono HB4.out.size))
  clear hb5 E
  go_wp2_with fail
  go_ret
  exact ⟨rfl, HB5.out⟩
end Go.Proofs.Ytofhjpmkpgbgiaa
