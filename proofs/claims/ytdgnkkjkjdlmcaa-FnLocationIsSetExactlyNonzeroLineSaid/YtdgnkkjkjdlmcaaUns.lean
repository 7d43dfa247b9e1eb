/- The walks of FnLocationUnsetComesFirst and FnLocationIsSetExactlyNonzeroLine: both return true, whatever the integers. -/
import Derived.Test.YtdgnkkjkjdlmcaaCom
namespace Go.Proofs.Ytdgnkkjkjdlmcaa
open Go.RowKit
set_option linter.unusedVariables false

theorem uns_pos (a b c : Int) (w : World) (h : 0 < a) (k : decide (a < 0) = false) :
    Calls Try.prog 3 #[.int .i64 a, .int .i64 b, .int .i64 c] w fun e w' => e = .returned (.bool true) ∧ Below w.heap.size w w' := by
  have n0 : (a != 0) = true := by simp; omega
  have n1 : ((0 : Int) != a) = true := by simp; omega
  go_enter Try.func3, Try.ntmps3
  go_wp2
  go_ret
  exact ⟨rfl, by go_grown⟩

theorem uns_neg (a b c : Int) (w : World) (h : a < 0) (k : decide (0 < a) = false) :
    Calls Try.prog 3 #[.int .i64 a, .int .i64 b, .int .i64 c] w fun e w' => e = .returned (.bool true) ∧ Below w.heap.size w w' := by
  have n0 : (a != 0) = true := by simp; omega
  have n1 : ((0 : Int) != a) = true := by simp; omega
  go_enter Try.func3, Try.ntmps3
  go_wp2
  go_ret
  exact ⟨rfl, by go_grown⟩

theorem uns_zero (b c : Int) (w : World) :
    Calls Try.prog 3 #[.int .i64 0, .int .i64 b, .int .i64 c] w fun e w' => e = .returned (.bool true) ∧ Below w.heap.size w w' := by
  go_enter Try.func3, Try.ntmps3
  go_wp2
  go_ret
  refine ⟨?_, by go_grown⟩
  first | rfl | simp

theorem uns_any (a b c : Int) (w : World) :
    Calls Try.prog 3 #[.int .i64 a, .int .i64 b, .int .i64 c] w fun e w' => e = .returned (.bool true) ∧ Below w.heap.size w w' := by
  rcases Int.lt_trichotomy a 0 with h | h | h
  · exact uns_neg a b c w h (by simp; omega)
  · subst h
    exact uns_zero b c w
  · exact uns_pos a b c w h (by simp; omega)

theorem iss_pos (a b : Int) (w : World) (h : 0 < a) (k : decide (a < 0) = false) :
    Calls Try.prog 5 #[.int .i64 a, .int .i64 b] w fun e w' => e = .returned (.bool true) ∧ Below w.heap.size w w' := by
  have n0 : (a != 0) = true := by simp; omega
  go_enter Try.func5, Try.ntmps5
  go_wp2
  refine wp_region_tail 19 (by kernel_rfl) (by kernel_rfl) ?_
  simp only [List.take_succ_cons, List.take_zero, List.drop_succ_cons, List.drop_zero]
  repeat still_step
  refine wpStill_nil ?_
  go_wp2
  go_ret
  refine ⟨?_, ?_⟩
  · first | rfl | simp
  · go_grown

theorem iss_neg (a b : Int) (w : World) (h : a < 0) (k : decide (0 < a) = false) :
    Calls Try.prog 5 #[.int .i64 a, .int .i64 b] w fun e w' => e = .returned (.bool true) ∧ Below w.heap.size w w' := by
  have n0 : (a != 0) = true := by simp; omega
  go_enter Try.func5, Try.ntmps5
  go_wp2
  refine wp_region_tail 19 (by kernel_rfl) (by kernel_rfl) ?_
  simp only [List.take_succ_cons, List.take_zero, List.drop_succ_cons, List.drop_zero]
  repeat still_step
  refine wpStill_nil ?_
  go_wp2
  go_ret
  refine ⟨?_, ?_⟩
  · first | rfl | simp
  · go_grown

theorem iss_zero (b : Int) (w : World) :
    Calls Try.prog 5 #[.int .i64 0, .int .i64 b] w fun e w' => e = .returned (.bool true) ∧ Below w.heap.size w w' := by
  go_enter Try.func5, Try.ntmps5
  go_wp2
  refine wp_region_tail 19 (by kernel_rfl) (by kernel_rfl) ?_
  simp only [List.take_succ_cons, List.take_zero, List.drop_succ_cons, List.drop_zero]
  repeat still_step
  refine wpStill_nil ?_
  go_wp2
  go_ret
  refine ⟨?_, ?_⟩
  · first | rfl | simp
  · go_grown

theorem iss_any (a b : Int) (w : World) :
    Calls Try.prog 5 #[.int .i64 a, .int .i64 b] w fun e w' => e = .returned (.bool true) ∧ Below w.heap.size w w' := by
  rcases Int.lt_trichotomy a 0 with h | h | h
  · exact iss_neg a b w h (by simp; omega)
  · subst h
    exact iss_zero b w
  · exact iss_pos a b w h (by simp; omega)
end Go.Proofs.Ytdgnkkjkjdlmcaa
