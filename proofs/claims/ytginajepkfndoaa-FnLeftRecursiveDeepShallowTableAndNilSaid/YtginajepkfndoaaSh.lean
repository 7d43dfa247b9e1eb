/- One node over Var children: zzShallow, and the two laws on it. -/
import Derived.Test.YtginajepkfndoaaLf
namespace Go.Proofs.Ytginajepkfndoaa
open Go.RowKit
set_option linter.unusedVariables false

/-- What zzShallow leaves: the holder hb, the node ob of type T in its Left, the Var lb. -/
def ShPost (w : World) (kind : Int) (e : Ending) (w' : World) : Prop :=
  ∃ (hb ob lb T oo To : Nat) (ch co cl : Array Value), e = .returned (.tuple #[.pointer (some ⟨hb, 0, none⟩), .pointer (some ⟨lb, 1, none⟩), .pointer (some ⟨ob, oo, none⟩)]) ∧ Blk w' hb 45 ch ∧ ch[1]? = some (.iface T (.pointer (some ⟨ob, 0, none⟩))) ∧
    Blk w' ob To co ∧ Blk w' lb 67 cl ∧ lb ≠ ob ∧ ((kind ≤ 5 ∧ ∃ off, lrOff T = some off ∧ co[off]? = some (.iface 64 (.pointer (some ⟨lb, 0, none⟩)))) ∨ (5 < kind ∧ isLeaf T ∧ oo = leafOff T)) ∧ w.heap.size ≤ hb ∧ Below w.heap.size w w'

set_option maxRecDepth 100000 in
set_option maxHeartbeats 3200000 in
theorem sh0 (w : World) : Calls Try.prog 14 #[.int .i64 0] w (ShPost w 0) := by
  go_enter Try.func14, Try.ntmps14
  go_wp2
  go_quiet (fail)
  go_wp2
  go_ret3
  exact ⟨w.heap.size + 1, w.heap.size + 1 + 1 + 1 + 1, w.heap.size + 1 + 1, 80, 6, 86, _, _, _, rfl, ((((Blk.newAt (by simp) _ _).alloc _).alloc _).alloc _).drewN _, rfl, (Blk.newAt (by simp) _ _).drewN _, (((Blk.newAt (by simp) _ _).alloc _).alloc _).drewN _, by omega, .inl ⟨by omega, 0, rfl, rfl⟩, by omega, below_drewN (by go_grown) _⟩

set_option maxRecDepth 100000 in
set_option maxHeartbeats 3200000 in
theorem sh1 (w : World) : Calls Try.prog 14 #[.int .i64 1] w (ShPost w 1) := by
  go_enter Try.func14, Try.ntmps14
  go_wp2
  go_quiet (fail)
  go_wp2
  go_ret3
  exact ⟨w.heap.size + 1, w.heap.size + 1 + 1 + 1 + 1, w.heap.size + 1 + 1, 87, 2, 89, _, _, _, rfl, ((((Blk.newAt (by simp) _ _).alloc _).alloc _).alloc _).drewN _, rfl, (Blk.newAt (by simp) _ _).drewN _, (((Blk.newAt (by simp) _ _).alloc _).alloc _).drewN _, by omega, .inl ⟨by omega, 0, rfl, rfl⟩, by omega, below_drewN (by go_grown) _⟩

set_option maxRecDepth 100000 in
set_option maxHeartbeats 3200000 in
theorem sh2 (w : World) : Calls Try.prog 14 #[.int .i64 2] w (ShPost w 2) := by
  go_enter Try.func14, Try.ntmps14
  go_wp2
  go_quiet (fail)
  go_wp2
  go_ret3
  exact ⟨w.heap.size + 1, w.heap.size + 1 + 1 + 1 + 1, w.heap.size + 1 + 1, 22, 3, 45, _, _, _, rfl, ((((Blk.newAt (by simp) _ _).alloc _).alloc _).alloc _).drewN _, rfl, (Blk.newAt (by simp) _ _).drewN _, (((Blk.newAt (by simp) _ _).alloc _).alloc _).drewN _, by omega, .inl ⟨by omega, 1, rfl, rfl⟩, by omega, below_drewN (by go_grown) _⟩

set_option maxRecDepth 100000 in
set_option maxHeartbeats 3200000 in
theorem sh3 (w : World) : Calls Try.prog 14 #[.int .i64 3] w (ShPost w 3) := by
  go_enter Try.func14, Try.ntmps14
  go_wp2
  go_quiet (fail)
  go_wp2
  go_ret3
  exact ⟨w.heap.size + 1, w.heap.size + 1 + 1 + 1 + 1, w.heap.size + 1 + 1, 90, 5, 93, _, _, _, rfl, ((((Blk.newAt (by simp) _ _).alloc _).alloc _).alloc _).drewN _, rfl, (Blk.newAt (by simp) _ _).drewN _, (((Blk.newAt (by simp) _ _).alloc _).alloc _).drewN _, by omega, .inl ⟨by omega, 0, rfl, rfl⟩, by omega, below_drewN (by go_grown) _⟩

set_option maxRecDepth 100000 in
set_option maxHeartbeats 3200000 in
theorem sh4 (w : World) : Calls Try.prog 14 #[.int .i64 4] w (ShPost w 4) := by
  go_enter Try.func14, Try.ntmps14
  go_wp2
  go_quiet (fail)
  go_wp2
  go_ret3
  exact ⟨w.heap.size + 1, w.heap.size + 1 + 1 + 1 + 1, w.heap.size + 1 + 1, 94, 3, 96, _, _, _, rfl, ((((Blk.newAt (by simp) _ _).alloc _).alloc _).alloc _).drewN _, rfl, (Blk.newAt (by simp) _ _).drewN _, (((Blk.newAt (by simp) _ _).alloc _).alloc _).drewN _, by omega, .inl ⟨by omega, 0, rfl, rfl⟩, by omega, below_drewN (by go_grown) _⟩

set_option maxRecDepth 100000 in
set_option maxHeartbeats 3200000 in
theorem sh5 (w : World) : Calls Try.prog 14 #[.int .i64 5] w (ShPost w 5) := by
  go_enter Try.func14, Try.ntmps14
  go_wp2
  go_quiet (fail)
  go_wp2
  go_ret3
  exact ⟨w.heap.size + 1, w.heap.size + 1 + 1 + 1 + 1, w.heap.size + 1 + 1, 97, 8, 99, _, _, _, rfl, ((((Blk.newAt (by simp) _ _).alloc _).alloc _).alloc _).drewN _, rfl, (Blk.newAt (by simp) _ _).drewN _, (((Blk.newAt (by simp) _ _).alloc _).alloc _).drewN _, by omega, .inl ⟨by omega, 0, rfl, rfl⟩, by omega, below_drewN (by go_grown) _⟩

set_option maxRecDepth 100000 in
set_option maxHeartbeats 3200000 in
theorem sh6 (w : World) : Calls Try.prog 14 #[.int .i64 6] w (ShPost w 6) := by
  go_enter Try.func14, Try.ntmps14
  go_wp2
  go_quiet (fail)
  go_wp2
  go_ret3
  exact ⟨w.heap.size + 1, w.heap.size + 1 + 1 + 1 + 1, w.heap.size + 1 + 1, 64, 1, 67, _, _, _, rfl, ((((Blk.newAt (by simp) _ _).alloc _).alloc _).alloc _).drewN _, rfl, (Blk.newAt (by simp) _ _).drewN _, (((Blk.newAt (by simp) _ _).alloc _).alloc _).drewN _, by omega, .inr ⟨by omega, by simp [isLeaf], rfl⟩, by omega, below_drewN (by go_grown) _⟩

set_option maxRecDepth 100000 in
set_option maxHeartbeats 3200000 in
theorem sh7 (w : World) : Calls Try.prog 14 #[.int .i64 7] w (ShPost w 7) := by
  go_enter Try.func14, Try.ntmps14
  go_wp2
  go_quiet (fail)
  go_wp2
  go_ret3
  exact ⟨w.heap.size + 1, w.heap.size + 1 + 1 + 1 + 1, w.heap.size + 1 + 1, 73, 2, 75, _, _, _, rfl, ((((Blk.newAt (by simp) _ _).alloc _).alloc _).alloc _).drewN _, rfl, (Blk.newAt (by simp) _ _).drewN _, (((Blk.newAt (by simp) _ _).alloc _).alloc _).drewN _, by omega, .inr ⟨by omega, by simp [isLeaf], rfl⟩, by omega, below_drewN (by go_grown) _⟩

set_option maxRecDepth 100000 in
set_option maxHeartbeats 3200000 in
theorem sh8 (w : World) : Calls Try.prog 14 #[.int .i64 8] w (ShPost w 8) := by
  go_enter Try.func14, Try.ntmps14
  go_wp2
  go_quiet (fail)
  go_wp2
  go_ret3
  exact ⟨w.heap.size + 1, w.heap.size + 1 + 1 + 1 + 1, w.heap.size + 1 + 1, 76, 1, 79, _, _, _, rfl, ((((Blk.newAt (by simp) _ _).alloc _).alloc _).alloc _).drewN _, rfl, (Blk.newAt (by simp) _ _).drewN _, (((Blk.newAt (by simp) _ _).alloc _).alloc _).drewN _, by omega, .inr ⟨by omega, by simp [isLeaf], rfl⟩, by omega, below_drewN (by go_grown) _⟩

set_option maxRecDepth 100000 in
set_option maxHeartbeats 3200000 in
theorem sh9 (w : World) : Calls Try.prog 14 #[.int .i64 9] w (ShPost w 9) := by
  go_enter Try.func14, Try.ntmps14
  go_wp2
  go_quiet (fail)
  go_wp2
  go_ret3
  exact ⟨w.heap.size + 1, w.heap.size + 1 + 1 + 1 + 1, w.heap.size + 1 + 1, 103, 5, 105, _, _, _, rfl, ((((Blk.newAt (by simp) _ _).alloc _).alloc _).alloc _).drewN _, rfl, (Blk.newAt (by simp) _ _).drewN _, (((Blk.newAt (by simp) _ _).alloc _).alloc _).drewN _, by omega, .inr ⟨by omega, by simp [isLeaf], rfl⟩, by omega, below_drewN (by go_grown) _⟩

set_option maxRecDepth 100000 in
set_option maxHeartbeats 3200000 in
theorem sh10 (w : World) : Calls Try.prog 14 #[.int .i64 10] w (ShPost w 10) := by
  go_enter Try.func14, Try.ntmps14
  go_wp2
  go_quiet (fail)
  go_wp2
  go_ret3
  exact ⟨w.heap.size + 1, w.heap.size + 1 + 1 + 1 + 1, w.heap.size + 1 + 1, 106, 1, 108, _, _, _, rfl, ((((Blk.newAt (by simp) _ _).alloc _).alloc _).alloc _).drewN _, rfl, (Blk.newAt (by simp) _ _).drewN _, (((Blk.newAt (by simp) _ _).alloc _).alloc _).drewN _, by omega, .inr ⟨by omega, by simp [isLeaf], rfl⟩, by omega, below_drewN (by go_grown) _⟩

set_option maxRecDepth 100000 in
set_option maxHeartbeats 3200000 in
theorem sh11 (w : World) : Calls Try.prog 14 #[.int .i64 11] w (ShPost w 11) := by
  go_enter Try.func14, Try.ntmps14
  go_wp2
  go_quiet (fail)
  go_wp2
  go_ret3
  exact ⟨w.heap.size + 1, w.heap.size + 1 + 1 + 1 + 1, w.heap.size + 1 + 1, 68, 0, 70, _, _, _, rfl, ((((Blk.newAt (by simp) _ _).alloc _).alloc _).alloc _).drewN _, rfl, (Blk.newAt (by simp) _ _).drewN _, (((Blk.newAt (by simp) _ _).alloc _).alloc _).drewN _, by omega, .inr ⟨by omega, by simp [isLeaf], rfl⟩, by omega, below_drewN (by go_grown) _⟩

theorem sh_any (w : World) (kind : Int) (h0 : 0 ≤ kind) (h1 : kind ≤ 11) : Calls Try.prog 14 #[.int .i64 kind] w (ShPost w kind) := by
  rcases (show kind = 0 ∨ kind = 1 ∨ kind = 2 ∨ kind = 3 ∨ kind = 4 ∨ kind = 5 ∨ kind = 6 ∨ kind = 7 ∨ kind = 8 ∨ kind = 9 ∨ kind = 10 ∨ kind = 11 by omega) with rfl | rfl | rfl | rfl | rfl | rfl | rfl | rfl | rfl | rfl | rfl | rfl
  · exact sh0 w
  · exact sh1 w
  · exact sh2 w
  · exact sh3 w
  · exact sh4 w
  · exact sh5 w
  · exact sh6 w
  · exact sh7 w
  · exact sh8 w
  · exact sh9 w
  · exact sh10 w
  · exact sh11 w

end Go.Proofs.Ytginajepkfndoaa
