/- The walk of FnOpenFodderUnchangedByLeftWrapping. -/
import Derived.Test.YtginajepkfndoaaLf
namespace Go.Proofs.Ytginajepkfndoaa
open Go.RowKit
set_option linter.unusedVariables false

def Wrapped (w : World) (hb L lb n : Nat) (e : Ending) (w' : World) : Prop :=
  e = .returned (.tuple #[]) ∧ (∃ T2 b2, w'.cell? ⟨hb, 1, none⟩ = some (.iface T2 (.pointer (some ⟨b2, 0, none⟩))) ∧ Spine w' hb L lb (n + 1) T2 b2) ∧ w.grownBy w' (some hb)

theorem set_self {w : World} {p : Addr} {v : Value} (h : w.cell? p = some v) (u : Value) : (w.setCell p u).cell? p = some u := by
  exact World.cell?_setCell_same w p u h
theorem gset {a w : World} {g : Nat} (h : a.grownBy w (some g)) (i : Nat) (u : Value) : a.grownBy (w.setCell ⟨g, i, none⟩ u) (some g) :=
  ⟨h.os, h.tape, h.output, by simpa [World.setCell] using h.size, fun k hk hne => (Below.heap_setCell w ⟨g, i, none⟩ u k (by intro e; exact hne (by rw [e]))).trans (h.block k hk hne)⟩
theorem galloc {a w : World} {row : Option Nat} (h : a.grownBy w row) (o : Obj) : a.grownBy (w.alloc o) row :=
  ⟨h.os, h.tape, h.output, Nat.le_trans h.size (by simp), fun i hi hne => (Below.heap_alloc w o i (Nat.lt_of_lt_of_le hi h.size)).trans (h.block i hi hne)⟩

set_option maxRecDepth 100000 in
set_option maxHeartbeats 1600000 in
theorem wrap_any (w : World) (hb T b L lb n : Nat) (csh : Array Value) (H : Blk w hb 45 csh) (e1 : csh[1]? = some (.iface T (.pointer (some ⟨b, 0, none⟩)))) (hS : Spine w hb L lb n T b) (k2 : Int) (h0 : 0 ≤ k2) (h5 : k2 ≤ 5) :
    Calls Try.prog 13 #[.pointer (some ⟨hb, 0, none⟩), .int .i64 k2] w (Wrapped w hb L lb n) := by
  have y1 : w.cell? ⟨hb, 1, none⟩ = some (.iface T (.pointer (some ⟨b, 0, none⟩))) := by rw [H.cell]; exact e1
  have q1 := H.free 1
  have zh := H.lt
  have HS := Lib.hid hS
  clear H e1 hS
  rcases (show k2 = 0 ∨ k2 = 1 ∨ k2 = 2 ∨ k2 = 3 ∨ k2 = 4 ∨ k2 = 5 by omega) with rfl | rfl | rfl | rfl | rfl | rfl
  · go_enter Try.func13, Try.ntmps13
    go_wp2
    go_end0
    have C1 := set_self y1 (.iface 80 (.pointer (some ⟨w.heap.size, 0, none⟩)))
    exact ⟨rfl, ⟨80, w.heap.size, Lib.cell?_alloc_some _ C1, Spine.step (b := w.heap.size) (Spine.set _ _ _ HS.out) (by go_grown) (by omega) (off := 0) rfl (by simp [go_sem])⟩, galloc (gset (World.grownBy.refl w _) 1 _) _⟩
  · go_enter Try.func13, Try.ntmps13
    go_wp2
    go_end0
    have C1 := set_self y1 (.iface 87 (.pointer (some ⟨w.heap.size + 1, 0, none⟩)))
    exact ⟨rfl, ⟨87, w.heap.size + 1, Lib.cell?_alloc_some _ (Lib.cell?_alloc_some _ C1), Spine.step (b := w.heap.size + 1) (Spine.set _ _ _ HS.out) (by go_grown) (by omega) (off := 0) rfl (by simp [go_sem])⟩, galloc (galloc (gset (World.grownBy.refl w _) 1 _) _) _⟩
  · go_enter Try.func13, Try.ntmps13
    go_wp2
    go_end0
    have C1 := set_self y1 (.iface 22 (.pointer (some ⟨w.heap.size + 1, 0, none⟩)))
    exact ⟨rfl, ⟨22, w.heap.size + 1, Lib.cell?_alloc_some _ (Lib.cell?_alloc_some _ C1), Spine.step (b := w.heap.size + 1) (Spine.set _ _ _ HS.out) (by go_grown) (by omega) (off := 1) rfl (by simp [go_sem])⟩, galloc (galloc (gset (World.grownBy.refl w _) 1 _) _) _⟩
  · go_enter Try.func13, Try.ntmps13
    go_wp2
    go_end0
    have C1 := set_self y1 (.iface 90 (.pointer (some ⟨w.heap.size + 1, 0, none⟩)))
    exact ⟨rfl, ⟨90, w.heap.size + 1, Lib.cell?_alloc_some _ (Lib.cell?_alloc_some _ C1), Spine.step (b := w.heap.size + 1) (Spine.set _ _ _ HS.out) (by go_grown) (by omega) (off := 0) rfl (by simp [go_sem])⟩, galloc (galloc (gset (World.grownBy.refl w _) 1 _) _) _⟩
  · go_enter Try.func13, Try.ntmps13
    go_wp2
    go_end0
    have C1 := set_self y1 (.iface 94 (.pointer (some ⟨w.heap.size, 0, none⟩)))
    exact ⟨rfl, ⟨94, w.heap.size, Lib.cell?_alloc_some _ C1, Spine.step (b := w.heap.size) (Spine.set _ _ _ HS.out) (by go_grown) (by omega) (off := 0) rfl (by simp [go_sem])⟩, galloc (gset (World.grownBy.refl w _) 1 _) _⟩
  · go_enter Try.func13, Try.ntmps13
    go_wp2
    go_end0
    have C1 := set_self y1 (.iface 97 (.pointer (some ⟨w.heap.size, 0, none⟩)))
    exact ⟨rfl, ⟨97, w.heap.size, Lib.cell?_alloc_some _ C1, Spine.step (b := w.heap.size) (Spine.set _ _ _ HS.out) (by go_grown) (by omega) (off := 0) rfl (by simp [go_sem])⟩, galloc (gset (World.grownBy.refl w _) 1 _) _⟩

set_option maxRecDepth 100000 in
set_option maxHeartbeats 1600000 in
theorem wrapLaw (k m lk k2 : Int) (w : World) :
    Calls Try.prog 5 #[.int .i64 k, .int .i64 m, .int .i64 lk, .int .i64 k2] w fun e w' => e = .returned (.bool true) ∧ Below w.heap.size w w' := by
  by_cases hr : 0 ≤ k ∧ k ≤ 5 ∧ 0 ≤ m ∧ m ≤ 4096 ∧ 0 ≤ lk ∧ lk ≤ 4 ∧ 0 ≤ k2 ∧ k2 ≤ 5
  · obtain ⟨k0, k1, m0, m1, l0, l1, j0, j1⟩ := hr
    go_enter Try.func5, Try.ntmps5
    go_wp2_with fail
    refine (chain_any _ _ _ _ k0 k1 m0 m1 l0 l1 none 0 0 _ none (clone_nil _)).mono ?_
    rintro e w1 ⟨hb, bb, lb, n, rfl, T, b, tl, csh, csb, csl, vh, vb, H, B, L, e1, hS, e2, e3, e4, _, _, z1, z2, z3, n1, n2, n3, G⟩
    have c1 := Lib.hid (show w1.cell? ⟨hb, 1, none⟩ = some (.iface T (.pointer (some ⟨b, 0, none⟩))) by rw [H.cell]; exact e1)
    have HS := Lib.hid hS
    have HH := Lib.hid H
    have E1 := Lib.hid e1
    have GG := Lib.hid G
    have p0 := ptr_same ⟨lb, leafOff (leafT lk), none⟩
    clear H B L e1 hS e2 e3 e4 G z2 z3 n1 n2 n3
    go_wp2_with fail
    refine (zopenF_any _ _ _ _ _ (leaf_is lk) _ _ _ c1.out HS.out).mono ?_
    rintro e w2 ⟨rfl, rfl⟩
    go_wp2_with fail
    refine (wrap_any _ _ _ _ _ _ _ _ HH.out E1.out HS.out _ j0 j1).mono ?_
    rintro e w3 ⟨rfl, ⟨T2, b2, c2, s2⟩, g2⟩
    have S2 := Lib.hid s2
    have C2 := Lib.hid c2
    have G2 := Lib.hid (GG.out.grown g2 GG.out.size (by intro x hx; injection hx with hx; omega))
    clear s2 c2 g2 HS HH E1 GG c1
    go_wp2_with fail
    refine (zopenF_any _ _ _ _ _ (leaf_is lk) _ _ _ C2.out S2.out).mono ?_
    rintro e w4 ⟨rfl, rfl⟩
    go_wp2_with fail
    go_ret
    exact ⟨rfl, G2.out⟩
  · go_enter Try.func5, Try.ntmps5
    go_wp2_with fail
    all_goals (go_ret; exact ⟨rfl, Below.refl _ _⟩)
end Go.Proofs.Ytginajepkfndoaa
