/- The walk of FnLocationRangeIsSetExact: it returns true, whatever the flag, the name and the four integers. -/
import Derived.Test.YtglamlgmeknkhaaLoc
namespace Go.Proofs.Ytglamlgmeknkhaa
open Go.RowKit

theorem set_big (a0 : Bool) (s : ByteArray) (a b c d : Int) (w : World) (hs : s.size ≤ maxLen) (h : 1048576 < s.size) :
    Calls Try.prog 4 #[.bool a0, .string s, .int .i64 a, .int .i64 b, .int .i64 c, .int .i64 d] w fun e w' => e = .returned (.bool true) ∧ Grown w w' := by
  unfold maxLen at hs
  go_enter Try.func4, Try.ntmps4
  go_wp2
  go_ret
  exact ⟨rfl, by go_grown⟩

theorem set_zero (a0 : Bool) (s : ByteArray) (b c d : Int) (w : World) (h : s.size ≤ 1048576) :
    Calls Try.prog 4 #[.bool a0, .string s, .int .i64 0, .int .i64 b, .int .i64 c, .int .i64 d] w fun e w' => e = .returned (.bool true) ∧ Grown w w' := by
  cases a0
  all_goals
    go_enter Try.func4, Try.ntmps4
    go_wp2
    go_ret
    exact ⟨rfl, by go_grown⟩

theorem set_non (a0 : Bool) (s : ByteArray) (a b c d : Int) (w : World) (h : s.size ≤ 1048576) (hn : (a != 0) = true) :
    Calls Try.prog 4 #[.bool a0, .string s, .int .i64 a, .int .i64 b, .int .i64 c, .int .i64 d] w fun e w' => e = .returned (.bool true) ∧ Grown w w' := by
  cases a0
  all_goals
    go_enter Try.func4, Try.ntmps4
    go_wp2
    go_ret
    exact ⟨rfl, by go_grown⟩

theorem set_any (a0 : Bool) (s : ByteArray) (a b c d : Int) (w : World) (hs : s.size ≤ maxLen) :
    Calls Try.prog 4 #[.bool a0, .string s, .int .i64 a, .int .i64 b, .int .i64 c, .int .i64 d] w fun e w' => e = .returned (.bool true) ∧ Grown w w' := by
  by_cases h : s.size ≤ 1048576
  · by_cases k : a = 0
    · subst k
      exact set_zero a0 s b c d w h
    · exact set_non a0 s a b c d w h (by simpa using k)
  · exact set_big a0 s a b c d w hs (by omega)
end Go.Proofs.Ytglamlgmeknkhaa
