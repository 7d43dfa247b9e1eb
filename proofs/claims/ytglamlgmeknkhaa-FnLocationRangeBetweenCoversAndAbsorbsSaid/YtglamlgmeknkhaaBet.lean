/- The walk of FnLocationRangeBetweenCoversAndAbsorbs. -/
import Derived.Test.YtglamlgmeknkhaaMid
namespace Go.Proofs.Ytglamlgmeknkhaa
open Go.RowKit

theorem bet_a (a0 : Bool) (s t : ByteArray) (a b c d e f g h : Int) (w : World) (hs : s.size ≤ maxLen) (h0 : 1048576 < s.size) :
    Calls Try.prog 6 #[.bool a0, .string s, .string t, .int .i64 a, .int .i64 b, .int .i64 c, .int .i64 d, .int .i64 e, .int .i64 f, .int .i64 g, .int .i64 h] w fun e w' => e = .returned (.bool true) ∧ Below w.heap.size w w' := by
  unfold maxLen at hs
  go_enter Try.func6, Try.ntmps6
  go_wp2
  go_ret
  exact ⟨rfl, by go_grown⟩

theorem bet_b (a0 : Bool) (s t : ByteArray) (a b c d e f g h : Int) (w : World) (hs : t.size ≤ maxLen) (h0 : s.size ≤ 1048576) (h1 : 1048576 < t.size) :
    Calls Try.prog 6 #[.bool a0, .string s, .string t, .int .i64 a, .int .i64 b, .int .i64 c, .int .i64 d, .int .i64 e, .int .i64 f, .int .i64 g, .int .i64 h] w fun e w' => e = .returned (.bool true) ∧ Below w.heap.size w w' := by
  unfold maxLen at hs
  go_enter Try.func6, Try.ntmps6
  go_wp2
  go_ret
  exact ⟨rfl, by go_grown⟩

theorem bet_c (a0 : Bool) (s t : ByteArray) (a b c d e f g h : Int) (w : World) (h0 : s.size ≤ 1048576) (h1 : t.size ≤ 1048576) (h2 : 1048576 < s.size + t.size) :
    Calls Try.prog 6 #[.bool a0, .string s, .string t, .int .i64 a, .int .i64 b, .int .i64 c, .int .i64 d, .int .i64 e, .int .i64 f, .int .i64 g, .int .i64 h] w fun e w' => e = .returned (.bool true) ∧ Below w.heap.size w w' := by
  go_enter Try.func6, Try.ntmps6
  go_wp2
  go_ret
  exact ⟨rfl, by go_grown⟩

theorem bet_d (a0 : Bool) (s t : ByteArray) (a b c d e f g h : Int) (w : World) (h0 : s.size ≤ 1048576) (h1 : t.size ≤ 1048576) (h2 : s.size + t.size ≤ 1048576) (hl : lexB e f a b = true) :
    Calls Try.prog 6 #[.bool a0, .string s, .string t, .int .i64 a, .int .i64 b, .int .i64 c, .int .i64 d, .int .i64 e, .int .i64 f, .int .i64 g, .int .i64 h] w fun e w' => e = .returned (.bool true) ∧ Below w.heap.size w w' := by
  go_enter Try.func6, Try.ntmps6
  go_wp2_with (first | (go_at_call 14; go_in) | (go_at_call 8; refine (lex_bel e f a b w).mono ?_; rintro e w1 ⟨rfl, g1⟩))
  go_ret
  exact ⟨rfl, g1⟩

theorem bet_e (a0 : Bool) (s t : ByteArray) (a b c d e f g h : Int) (w : World) (h0 : s.size ≤ 1048576) (h1 : t.size ≤ 1048576) (h2 : s.size + t.size ≤ 1048576) (hl : lexB e f a b = false) (hm : lexB g h c d = true) :
    Calls Try.prog 6 #[.bool a0, .string s, .string t, .int .i64 a, .int .i64 b, .int .i64 c, .int .i64 d, .int .i64 e, .int .i64 f, .int .i64 g, .int .i64 h] w fun e w' => e = .returned (.bool true) ∧ Below w.heap.size w w' := by
  go_enter Try.func6, Try.ntmps6
  go_wp2_with (first | (go_at_call 14; go_in) | fail)
  refine (lex_bel e f a b w).mono ?_
  rintro e w1 ⟨rfl, g1⟩
  go_wp2_with fail
  refine (lex_bel g h c d w1).mono ?_
  rintro e w2 ⟨rfl, g2⟩
  go_wp2
  go_ret
  exact ⟨rfl, (bel_old g1 g2 g1.size).1⟩


theorem bet_any (a0 : Bool) (s t : ByteArray) (a b c d e f g h : Int) (w : World) (hs : s.size ≤ maxLen) (ht : t.size ≤ maxLen) :
    Calls Try.prog 6 #[.bool a0, .string s, .string t, .int .i64 a, .int .i64 b, .int .i64 c, .int .i64 d, .int .i64 e, .int .i64 f, .int .i64 g, .int .i64 h] w fun e w' => e = .returned (.bool true) ∧ Below w.heap.size w w' := by
  by_cases h0 : s.size ≤ 1048576
  · by_cases h1 : t.size ≤ 1048576
    · by_cases h2 : s.size + t.size ≤ 1048576
      · cases hl : lexB e f a b
        · cases hm : lexB g h c d
          · cases a0
            · exact bet_main0 s t a b c d e f g h w h0 h1 h2 hl hm
            · exact bet_main1 s t a b c d e f g h w h0 h1 h2 hl hm
          · exact bet_e a0 s t a b c d e f g h w h0 h1 h2 hl hm
        · exact bet_d a0 s t a b c d e f g h w h0 h1 h2 hl
      · exact bet_c a0 s t a b c d e f g h w h0 h1 (by omega)
    · exact bet_b a0 s t a b c d e f g h w ht h0 (by omega)
  · exact bet_a a0 s t a b c d e f g h w hs (by omega)
end Go.Proofs.Ytglamlgmeknkhaa
