/- The walks of FnLeftRecursiveDeepFindsLeftmostLeaf, FnOpenFodderIsLeftmostLeafFodder, FnOpenFodderUnchangedByLeftWrapping. -/
import Derived.Test.YtginajepkfndoaaChn
import Derived.LaidEqlPtr
namespace Go.Proofs.Ytginajepkfndoaa
open Go.RowKit
set_option linter.unusedVariables false

theorem leaf_is (lk : Int) : isLeaf (leafT lk) := by
  unfold leafT isLeaf
  repeat' split
  all_goals simp

theorem clone_nil (w : World) : Copies w (.slice none 0 0) none := by
  intro W _
  have hnil := fun (W : World) (A : Option Addr) => Lib.run_eql_slice_nil (P := Try.prog) W 31 61 A 0 0 0 0 Try.underlying31
  go_enter Try.func21, Try.ntmps21
  go_wp2
  go_ret
  exact ⟨none, 0, 0, rfl, rfl, Below.refl _ _⟩

theorem Try.inf31 : (Try.prog.info? 31).map (fun i => (i.zero, i.size, i.bytes)) = some (some (.slice none 0 0), 1, 24) := by kernel_rfl

theorem ptr_same (a : Addr) (W : World) : (binOp .eql 23 (.pointer (some a)) (.pointer (some a))).run Try.prog W = .ok (.bool true) W := by
  obtain ⟨j, hj, _, _, _⟩ := info_parts Try.inf31
  exact run_eql_ptr_same (P := Try.prog) W a Try.underlying23 hj

theorem ptr_neq {W : World} {a b : Addr} {ca cb : Array Value} {ta tb : TypeId} (hne : a ≠ b) (ha : Blk W a.block ta ca) (hb : Blk W b.block tb cb) : (binOp .neq 23 (.pointer (some a)) (.pointer (some b))).run Try.prog W = .ok (.bool true) W := by
  obtain ⟨j, hj, _, hs, _⟩ := info_parts Try.inf31
  have h : ∀ d : Nat, (Op.equalIn (d + 1) 23 (.pointer (some a)) (.pointer (some b))).run Try.prog W = .ok false W := fun d => by
    simp [Op.equalIn, run_underlying Try.underlying23, sizeOf, typeInfo, hj, hs, run_sameAddr_other W hne ha hb]
  simp only [binOp]
  simp [Op.equal, Op.maxDepth, h 9999]
set_option maxRecDepth 100000 in
set_option maxHeartbeats 1600000 in
theorem deepLaw (k m lk : Int) (w : World) :
    Calls Try.prog 3 #[.int .i64 k, .int .i64 m, .int .i64 lk] w fun e w' => e = .returned (.bool true) ∧ Below w.heap.size w w' := by
  by_cases hr : 0 ≤ k ∧ k ≤ 5 ∧ 0 ≤ m ∧ m ≤ 4096 ∧ 0 ≤ lk ∧ lk ≤ 4
  · obtain ⟨k0, k1, m0, m1, l0, l1⟩ := hr
    go_enter Try.func3, Try.ntmps3
    go_wp2_with fail
    refine (chain_any _ _ _ _ k0 k1 m0 m1 l0 l1 none 0 0 _ none (clone_nil _)).mono ?_
    rintro e w1 ⟨hb, bb, lb, n, rfl, T, b, tl, csh, csb, csl, vh, vb, H, B, L, e1, hS, e2, e3, e4, _, _, z1, z2, z3, n1, n2, n3, G⟩
    have c1 := Lib.hid (show w1.cell? ⟨hb, 1, none⟩ = some (.iface T (.pointer (some ⟨b, 0, none⟩))) by rw [H.cell]; exact e1)
    have HS := Lib.hid hS
    have p1 := Lib.hid (ptr_neq (a := ⟨lb, leafOff (leafT lk), none⟩) (b := ⟨bb, 3, none⟩) (by intro e; injection e with e _; omega) L B)
    have p2 := Lib.hid (ptr_neq (a := ⟨lb, leafOff (leafT lk), none⟩) (b := ⟨hb, 3, none⟩) (by intro e; injection e with e _; omega) L H)
    have GG := Lib.hid G
    clear H B L e1 hS e2 e3 e4 G z1 z2 z3 n1 n2 n3
    go_wp2_with fail
    refine (zdeep_any _ _ _ _ _ (leaf_is lk) _ _ _ c1.out HS.out).mono ?_
    rintro e w2 ⟨rfl, rfl⟩
    have p0 := ptr_same ⟨lb, leafOff (leafT lk), none⟩
    have q1 := p1.out
    have q2 := p2.out
    clear p1 p2
    go_wp2_with fail
    go_ret
    exact ⟨rfl, GG.out⟩
  · go_enter Try.func3, Try.ntmps3
    go_wp2_with fail
    all_goals (go_ret; exact ⟨rfl, Below.refl _ _⟩)

set_option maxRecDepth 100000 in
set_option maxHeartbeats 1600000 in
theorem openLaw (k m lk : Int) (w : World) :
    Calls Try.prog 4 #[.int .i64 k, .int .i64 m, .int .i64 lk] w fun e w' => e = .returned (.bool true) ∧ Below w.heap.size w w' := by
  by_cases hr : 0 ≤ k ∧ k ≤ 5 ∧ 0 ≤ m ∧ m ≤ 4096 ∧ 0 ≤ lk ∧ lk ≤ 4
  · obtain ⟨k0, k1, m0, m1, l0, l1⟩ := hr
    go_enter Try.func4, Try.ntmps4
    go_wp2_with fail
    refine (chain_any _ _ _ _ k0 k1 m0 m1 l0 l1 none 0 0 _ none (clone_nil _)).mono ?_
    rintro e w1 ⟨hb, bb, lb, n, rfl, T, b, tl, csh, csb, csl, vh, vb, H, B, L, e1, hS, e2, e3, e4, _, _, z1, z2, z3, n1, n2, n3, G⟩
    have c1 := Lib.hid (show w1.cell? ⟨hb, 1, none⟩ = some (.iface T (.pointer (some ⟨b, 0, none⟩))) by rw [H.cell]; exact e1)
    have HS := Lib.hid hS
    have p1 := Lib.hid (ptr_neq (a := ⟨lb, leafOff (leafT lk), none⟩) (b := ⟨bb, 3, none⟩) (by intro e; injection e with e _; omega) L B)
    have p2 := Lib.hid (ptr_neq (a := ⟨lb, leafOff (leafT lk), none⟩) (b := ⟨hb, 3, none⟩) (by intro e; injection e with e _; omega) L H)
    have GG := Lib.hid G
    clear H B L e1 hS e2 e3 e4 G z1 z2 z3 n1 n2 n3
    go_wp2_with fail
    refine (zopenF_any _ _ _ _ _ (leaf_is lk) _ _ _ c1.out HS.out).mono ?_
    rintro e w2 ⟨rfl, rfl⟩
    have p0 := ptr_same ⟨lb, leafOff (leafT lk), none⟩
    have q1 := p1.out
    have q2 := p2.out
    clear p1 p2
    go_wp2_with fail
    go_ret
    exact ⟨rfl, GG.out⟩
  · go_enter Try.func4, Try.ntmps4
    go_wp2_with fail
    all_goals (go_ret; exact ⟨rfl, Below.refl _ _⟩)

end Go.Proofs.Ytginajepkfndoaa
