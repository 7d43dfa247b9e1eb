/- The walk of FnLocationBeforeStrictTotalOrder: it returns true, whatever the six integers. -/
import Derived.Test.YtglamlgmeknkhaaLoc
namespace Go.Proofs.Ytglamlgmeknkhaa
open Go.RowKit

theorem tot_eq (a b e f : Int) (w : World)  :
    Calls Try.prog 5 #[.int .i64 a, .int .i64 b, .int .i64 a, .int .i64 b, .int .i64 e, .int .i64 f] w fun e w' => e = .returned (.bool true) ∧ Grown w w' := by
  go_enter Try.func5, Try.ntmps5
  go_wp2
  go_ret
  exact ⟨rfl, by go_grown⟩

theorem tot_gt (a b c d e f : Int) (w : World) (h : c < a) :
    Calls Try.prog 5 #[.int .i64 a, .int .i64 b, .int .i64 c, .int .i64 d, .int .i64 e, .int .i64 f] w fun e w' => e = .returned (.bool true) ∧ Grown w w' := by
  have n0 : (a != c) = true := by simp; omega
  have n1 : (c != a) = true := by simp; omega
  have n2 : (a == c) = false := by simp; omega
  go_enter Try.func5, Try.ntmps5
  go_wp2
  go_ret
  exact ⟨rfl, by go_grown⟩

theorem tot_eqgt (a b d e f : Int) (w : World) (h : d < b) :
    Calls Try.prog 5 #[.int .i64 a, .int .i64 b, .int .i64 a, .int .i64 d, .int .i64 e, .int .i64 f] w fun e w' => e = .returned (.bool true) ∧ Grown w w' := by
  have n0 : (b != d) = true := by simp; omega
  have n1 : (d != b) = true := by simp; omega
  have n2 : (b == d) = false := by simp; omega
  go_enter Try.func5, Try.ntmps5
  go_wp2
  go_ret
  exact ⟨rfl, by go_grown⟩

theorem tot_lt1 (a b c d e f : Int) (w : World) (h : a < c) (k : e < c) :
    Calls Try.prog 5 #[.int .i64 a, .int .i64 b, .int .i64 c, .int .i64 d, .int .i64 e, .int .i64 f] w fun e w' => e = .returned (.bool true) ∧ Grown w w' := by
  have n0 : (a != c) = true := by simp; omega
  have n1 : (c != a) = true := by simp; omega
  have n2 : (a == c) = false := by simp; omega
  have n3 : (c != e) = true := by simp; omega
  have n4 : (e != c) = true := by simp; omega
  have n5 : (c == e) = false := by simp; omega
  go_enter Try.func5, Try.ntmps5
  go_wp2
  go_ret
  exact ⟨rfl, by go_grown⟩

theorem tot_lt2 (a b c d f : Int) (w : World) (h : a < c) (k : d < f) :
    Calls Try.prog 5 #[.int .i64 a, .int .i64 b, .int .i64 c, .int .i64 d, .int .i64 c, .int .i64 f] w fun e w' => e = .returned (.bool true) ∧ Grown w w' := by
  have n0 : (a != c) = true := by simp; omega
  have n1 : (c != a) = true := by simp; omega
  have n2 : (a == c) = false := by simp; omega
  go_enter Try.func5, Try.ntmps5
  go_wp2
  go_ret
  exact ⟨rfl, by go_grown⟩

theorem tot_lt3 (a b c d f : Int) (w : World) (h : a < c) (k : f ≤ d) :
    Calls Try.prog 5 #[.int .i64 a, .int .i64 b, .int .i64 c, .int .i64 d, .int .i64 c, .int .i64 f] w fun e w' => e = .returned (.bool true) ∧ Grown w w' := by
  have n0 : (a != c) = true := by simp; omega
  have n1 : (c != a) = true := by simp; omega
  have n2 : (a == c) = false := by simp; omega
  go_enter Try.func5, Try.ntmps5
  go_wp2
  go_ret
  exact ⟨rfl, by go_grown⟩

theorem tot_lt4 (a b c d e f : Int) (w : World) (h : a < c) (k : c < e) :
    Calls Try.prog 5 #[.int .i64 a, .int .i64 b, .int .i64 c, .int .i64 d, .int .i64 e, .int .i64 f] w fun e w' => e = .returned (.bool true) ∧ Grown w w' := by
  have n0 : (a != c) = true := by simp; omega
  have n1 : (c != a) = true := by simp; omega
  have n2 : (a == c) = false := by simp; omega
  have n3 : (c != e) = true := by simp; omega
  have n4 : (e != c) = true := by simp; omega
  have n5 : (c == e) = false := by simp; omega
  have n6 : (a != e) = true := by simp; omega
  have n7 : (e != a) = true := by simp; omega
  have n8 : (a == e) = false := by simp; omega
  have m0 : a < e := by omega
  go_enter Try.func5, Try.ntmps5
  go_wp2
  go_ret
  exact ⟨rfl, by go_grown⟩

theorem tot_el1 (a b d e f : Int) (w : World) (h : b < d) (k : e < a) :
    Calls Try.prog 5 #[.int .i64 a, .int .i64 b, .int .i64 a, .int .i64 d, .int .i64 e, .int .i64 f] w fun e w' => e = .returned (.bool true) ∧ Grown w w' := by
  have n0 : (b != d) = true := by simp; omega
  have n1 : (d != b) = true := by simp; omega
  have n2 : (b == d) = false := by simp; omega
  have n3 : (a != e) = true := by simp; omega
  have n4 : (e != a) = true := by simp; omega
  have n5 : (a == e) = false := by simp; omega
  go_enter Try.func5, Try.ntmps5
  go_wp2
  go_ret
  exact ⟨rfl, by go_grown⟩

theorem tot_el2 (a b d f : Int) (w : World) (h : b < d) (k : d < f) :
    Calls Try.prog 5 #[.int .i64 a, .int .i64 b, .int .i64 a, .int .i64 d, .int .i64 a, .int .i64 f] w fun e w' => e = .returned (.bool true) ∧ Grown w w' := by
  have n0 : (b != d) = true := by simp; omega
  have n1 : (d != b) = true := by simp; omega
  have n2 : (b == d) = false := by simp; omega
  have m0 : b < f := by omega
  go_enter Try.func5, Try.ntmps5
  go_wp2
  go_ret
  exact ⟨rfl, by go_grown⟩

theorem tot_el3 (a b d f : Int) (w : World) (h : b < d) (k : f ≤ d) :
    Calls Try.prog 5 #[.int .i64 a, .int .i64 b, .int .i64 a, .int .i64 d, .int .i64 a, .int .i64 f] w fun e w' => e = .returned (.bool true) ∧ Grown w w' := by
  have n0 : (b != d) = true := by simp; omega
  have n1 : (d != b) = true := by simp; omega
  have n2 : (b == d) = false := by simp; omega
  go_enter Try.func5, Try.ntmps5
  go_wp2
  go_ret
  exact ⟨rfl, by go_grown⟩

theorem tot_el4 (a b d e f : Int) (w : World) (h : b < d) (k : a < e) :
    Calls Try.prog 5 #[.int .i64 a, .int .i64 b, .int .i64 a, .int .i64 d, .int .i64 e, .int .i64 f] w fun e w' => e = .returned (.bool true) ∧ Grown w w' := by
  have n0 : (b != d) = true := by simp; omega
  have n1 : (d != b) = true := by simp; omega
  have n2 : (b == d) = false := by simp; omega
  have n3 : (a != e) = true := by simp; omega
  have n4 : (e != a) = true := by simp; omega
  have n5 : (a == e) = false := by simp; omega
  go_enter Try.func5, Try.ntmps5
  go_wp2
  go_ret
  exact ⟨rfl, by go_grown⟩

theorem tot_any (a b c d e f : Int) (w : World) :
    Calls Try.prog 5 #[.int .i64 a, .int .i64 b, .int .i64 c, .int .i64 d, .int .i64 e, .int .i64 f] w fun e w' => e = .returned (.bool true) ∧ Grown w w' := by
  rcases Int.lt_trichotomy a c with h | h | h
  · rcases Int.lt_trichotomy c e with k | k | k
    · exact tot_lt4 a b c d e f w h k
    · subst k
      by_cases k : d < f
      · exact tot_lt2 a b c d f w h k
      · exact tot_lt3 a b c d f w h (by omega)
    · exact tot_lt1 a b c d e f w h k
  · subst h
    rcases Int.lt_trichotomy b d with h | h | h
    · rcases Int.lt_trichotomy a e with k | k | k
      · exact tot_el4 a b d e f w h k
      · subst k
        by_cases k : d < f
        · exact tot_el2 a b d f w h k
        · exact tot_el3 a b d f w h (by omega)
      · exact tot_el1 a b d e f w h k
    · subst h
      exact tot_eq a b e f w
    · exact tot_eqgt a b d e f w h
  · exact tot_gt a b c d e f w h
end Go.Proofs.Ytglamlgmeknkhaa
