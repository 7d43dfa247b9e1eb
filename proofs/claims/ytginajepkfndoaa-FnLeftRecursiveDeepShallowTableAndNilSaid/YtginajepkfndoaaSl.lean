/- The walks of FnLeftRecursiveAgreesWithOpenFodder and FnLeftRecursiveDeepShallowTableAndNil. -/
import Derived.Test.YtginajepkfndoaaSh
namespace Go.Proofs.Ytginajepkfndoaa
open Go.RowKit
set_option linter.unusedVariables false

set_option maxRecDepth 100000 in
theorem zlr_some (w : World) (hb T ob off lb : Nat) (c1 : w.cell? ⟨hb, 1, none⟩ = some (.iface T (.pointer (some ⟨ob, 0, none⟩)))) (hoff : lrOff T = some off) (c2 : w.cell? ⟨ob, off, none⟩ = some (.iface 64 (.pointer (some ⟨lb, 0, none⟩)))) :
    Calls Try.prog 15 #[.pointer (some ⟨hb, 0, none⟩)] w fun e w' => e = .returned (.tuple #[.bool true, .pointer (some ⟨lb, 1, none⟩)]) ∧ w = w' := by
  have HO := Lib.hid hoff
  have C2 := Lib.hid c2
  clear hoff c2
  go_enter Try.func15, Try.ntmps15
  go_wp2_with fail
  refine (lr_some _ _ _ off 64 _ HO.out C2.out).mono ?_
  rintro e w1 ⟨rfl, rfl⟩
  go_wp2
  go_ret2
  exact ⟨rfl, rfl⟩

set_option maxRecDepth 100000 in
theorem zlr_none (w : World) (hb T ob : Nat) (c1 : w.cell? ⟨hb, 1, none⟩ = some (.iface T (.pointer (some ⟨ob, 0, none⟩)))) (hT : isLeaf T) :
    Calls Try.prog 15 #[.pointer (some ⟨hb, 0, none⟩)] w fun e w' => e = .returned (.tuple #[.bool false, .pointer none]) ∧ w = w' := by
  have HT := Lib.hid hT
  clear hT
  go_enter Try.func15, Try.ntmps15
  go_wp2_with fail
  refine (lr_none _ _ _ HT.out).mono ?_
  rintro e w1 ⟨rfl, rfl⟩
  go_wp2_with fail
  go_ret2
  exact ⟨rfl, rfl⟩

set_option maxRecDepth 100000 in
theorem zdeep_nil (w : World) (hb : Nat) (c1 : w.cell? ⟨hb, 1, none⟩ = some .nilIface) :
    Calls Try.prog 11 #[.pointer (some ⟨hb, 0, none⟩)] w fun e w' => e = .returned (.tuple #[.bool false, .pointer none]) ∧ w = w' := by
  go_enter Try.func11, Try.ntmps11
  go_wp2_with fail
  have D : Calls Try.prog 22 #[.nilIface] w fun e w' => e = .returned .nilIface ∧ w = w' := by
    clear c1
    go_enter Try.func22, Try.ntmps22
    go_wp2_with fail
    refine (lr_nil _).mono ?_
    rintro e w1 ⟨rfl, rfl⟩
    go_wp2_with fail
    refine wp_loop_rounds 1 ?_
    rw [rounds_succ]
    go_wp2_with fail
    go_ret
    exact ⟨rfl, rfl⟩
  refine D.mono ?_
  clear D
  rintro e w1 ⟨rfl, rfl⟩
  go_wp2_with fail
  go_ret2
  exact ⟨rfl, rfl⟩

set_option maxRecDepth 100000 in
set_option maxHeartbeats 1600000 in
theorem agreeLaw (kind : Int) (w : World) : Calls Try.prog 6 #[.int .i64 kind] w fun e w' => e = .returned (.bool true) ∧ Below w.heap.size w w' := by
  by_cases hr : 0 ≤ kind ∧ kind ≤ 11
  rotate_left
  · go_enter Try.func6, Try.ntmps6
    go_wp2_with fail
    all_goals (go_ret; exact ⟨rfl, Below.refl _ _⟩)
  obtain ⟨h0, h1⟩ := hr
  go_enter Try.func6, Try.ntmps6
  go_wp2_with fail
  refine (sh_any _ _ h0 h1).mono ?_
  rintro e w1 ⟨hb, ob, lb, T, oo, To, ch, co, cl, rfl, H, e1, O, L, hne, hcase, zh, G⟩
  have c1 := Lib.hid (show w1.cell? ⟨hb, 1, none⟩ = some (.iface T (.pointer (some ⟨ob, 0, none⟩))) by rw [H.cell]; exact e1)
  have pn := Lib.hid (ptr_neq (a := ⟨lb, 1, none⟩) (b := ⟨ob, oo, none⟩) (by intro e; injection e with e _; omega) L O)
  have GG := Lib.hid G
  rcases hcase with ⟨hk, off, hoff, e2⟩ | ⟨hk, hT, rfl⟩
  · have c2 := Lib.hid (show w1.cell? ⟨ob, off, none⟩ = some (.iface 64 (.pointer (some ⟨lb, 0, none⟩))) by rw [O.cell]; exact e2)
    have HS := Lib.hid (show Spine w1 w1.heap.size 64 lb 1 T ob from ⟨off, 64, lb, Nat.ne_of_lt O.lt, hoff, c2.out, rfl, rfl⟩)
    have HO := Lib.hid hoff
    clear H e1 O L G e2 hoff
    go_wp2_with fail
    refine (zlr_some _ _ _ _ _ _ c1.out HO.out c2.out).mono ?_
    rintro e w2 ⟨rfl, rfl⟩
    go_wp2_with fail
    refine (zopenF_any _ _ _ 64 lb (.inl rfl) _ _ _ c1.out HS.out).mono ?_
    rintro e w2 ⟨rfl, rfl⟩
    have p0 := ptr_same ⟨lb, leafOff 64, none⟩
    have p1 := pn.out
    simp only [show leafOff 64 = 1 from rfl] at p0 ⊢
    clear pn
    go_wp2_with fail
    go_ret
    exact ⟨rfl, GG.out⟩
  · have HS := Lib.hid (show Spine w1 w1.heap.size T ob 0 T ob from ⟨rfl, rfl⟩)
    have HT := Lib.hid hT
    clear H e1 O L G hT pn
    go_wp2_with fail
    refine (zlr_none _ _ _ _ c1.out HT.out).mono ?_
    rintro e w2 ⟨rfl, rfl⟩
    go_wp2_with fail
    refine (zopenF_any _ _ _ T ob HT.out _ _ _ c1.out HS.out).mono ?_
    rintro e w2 ⟨rfl, rfl⟩
    have p0 := ptr_same ⟨ob, leafOff T, none⟩
    go_wp2_with fail
    go_ret
    exact ⟨rfl, GG.out⟩

set_option maxRecDepth 100000 in
set_option maxHeartbeats 1600000 in
theorem tableLaw (kind : Int) (nl : Bool) (w : World) : Calls Try.prog 7 #[.int .i64 kind, .bool nl] w fun e w' => e = .returned (.bool true) ∧ Below w.heap.size w w' := by
  by_cases hr : 0 ≤ kind ∧ kind ≤ 11
  rotate_left
  · go_enter Try.func7, Try.ntmps7
    go_wp2_with fail
    all_goals (go_ret; exact ⟨rfl, Below.refl _ _⟩)
  obtain ⟨h0, h1⟩ := hr
  cases nl
  · go_enter Try.func7, Try.ntmps7
    go_wp2_with fail
    refine (sh_any _ _ h0 h1).mono ?_
    rintro e w1 ⟨hb, ob, lb, T, oo, To, ch, co, cl, rfl, H, e1, O, L, hne, hcase, zh, G⟩
    have c1 := Lib.hid (show w1.cell? ⟨hb, 1, none⟩ = some (.iface T (.pointer (some ⟨ob, 0, none⟩))) by rw [H.cell]; exact e1)
    have GG := Lib.hid G
    rcases hcase with ⟨hk, off, hoff, e2⟩ | ⟨hk, hT, rfl⟩
    · have c2 := Lib.hid (show w1.cell? ⟨ob, off, none⟩ = some (.iface 64 (.pointer (some ⟨lb, 0, none⟩))) by rw [O.cell]; exact e2)
      have HS := Lib.hid (show Spine w1 w1.heap.size 64 lb 1 T ob from ⟨off, 64, lb, Nat.ne_of_lt O.lt, hoff, c2.out, rfl, rfl⟩)
      clear H e1 O L G e2 hoff
      go_wp2_with fail
      refine (zdeep_any _ _ _ 64 lb (.inl rfl) _ _ _ c1.out HS.out).mono ?_
      rintro e w2 ⟨rfl, rfl⟩
      have p0 := ptr_same ⟨lb, leafOff 64, none⟩
      simp only [show leafOff 64 = 1 from rfl] at p0 ⊢
      go_wp2_with fail
      go_ret
      exact ⟨rfl, GG.out⟩
    · have HS := Lib.hid (show Spine w1 w1.heap.size T ob 0 T ob from ⟨rfl, rfl⟩)
      have HT := Lib.hid hT
      clear H e1 O L G hT
      go_wp2_with fail
      refine (zdeep_any _ _ _ T ob HT.out _ _ _ c1.out HS.out).mono ?_
      rintro e w2 ⟨rfl, rfl⟩
      have p0 := ptr_same ⟨ob, leafOff T, none⟩
      go_wp2_with fail
      go_ret
      exact ⟨rfl, GG.out⟩
  · go_enter Try.func7, Try.ntmps7
    go_wp2_with fail
    refine (sh_any _ _ h0 h1).mono ?_
    rintro e w1 ⟨hb, ob, lb, T, oo, To, ch, co, cl, rfl, H, e1, O, L, hne, hcase, zh, G⟩
    have y1 : w1.cell? ⟨hb, 1, none⟩ = some (.iface T (.pointer (some ⟨ob, 0, none⟩))) := by rw [H.cell]; exact e1
    have q1 := H.free 1
    have C2 := Lib.hid (World.cell?_setCell_same w1 ⟨hb, 1, none⟩ .nilIface y1)
    have GG := Lib.hid (G.setCell (p := ⟨hb, 1, none⟩) zh .nilIface)
    clear H e1 O L G hcase
    go_wp2_with fail
    refine (zdeep_nil _ _ C2.out).mono ?_
    rintro e w2 ⟨rfl, rfl⟩
    go_wp2_with fail
    go_ret
    exact ⟨rfl, GG.out⟩
end Go.Proofs.Ytginajepkfndoaa
