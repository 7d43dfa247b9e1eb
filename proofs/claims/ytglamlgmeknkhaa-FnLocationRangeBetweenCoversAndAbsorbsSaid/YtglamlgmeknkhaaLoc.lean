/- Contracts of LocationBefore and zzLexLess: both answer the lexicographic order of the two pairs. -/
import Derived.Test.YtglamlgmeknkhaaProg
import Derived.WalkKit
import Derived.RegionTactic
import Derived.ChangeAlike
import Derived.Deep.QuietTactic
import Derived.BigQuiet
import Derived.WalkLawsBesides
import Derived.RowKit3
import Derived.Lib.Hide
import Derived.Handy
import Derived.WalkSmall
namespace Go.Proofs.Ytglamlgmeknkhaa
open Go.RowKit

def lexB (a b c d : Int) : Bool := decide (a < c ∨ (a = c ∧ b < d))

theorem before_any (a b c d : Int) (w : World) :
    Calls Try.prog 7 #[.agg #[.int .i64 a, .int .i64 b], .agg #[.int .i64 c, .int .i64 d]] w fun e w' => e = .returned (.bool (lexB a b c d)) ∧ Grown w w' := by
  by_cases h : a = c
  · subst h
    have e : lexB a b a d = decide (b < d) := by simp [lexB]
    have E := Lib.hid e; clear e
    go_enter Try.func7, Try.ntmps7
    go_wp2
    go_ret
    exact ⟨by rw [E.out]; rfl, by go_grown⟩
  · have e : lexB a b c d = decide (a < c) := by simp [lexB, h]
    have E := Lib.hid e; clear e
    have hn : (a != c) = true := by simpa using h
    clear h
    go_enter Try.func7, Try.ntmps7
    go_wp2
    go_ret
    exact ⟨by rw [E.out]; rfl, by go_grown⟩


theorem grown_drewN {W w : World} (h : Grown W w) (n : Nat) : Grown W (w.drewN n) := ⟨h.1, h.2.1, h.2.2⟩

theorem lex_any (a b c d : Int) (w : World) :
    Calls Try.prog 8 #[.agg #[.int .i64 a, .int .i64 b], .agg #[.int .i64 c, .int .i64 d]] w fun e w' => e = .returned (.bool (lexB a b c d)) ∧ Grown w w' := by
  rcases Int.lt_trichotomy a c with h | h | h
  · have e : lexB a b c d = true := by simp [lexB, h]
    have E := Lib.hid e; clear e
    go_enter Try.func8, Try.ntmps8
    go_wp2
    refine wp_loop_rounds 1 ?_
    rw [rounds_succ]
    go_wp2
    go_quiet (fail)
    go_wp2
    go_ret
    exact ⟨by rw [E.out]; rfl, by (repeat refine grown_drewN ?_ _); go_grown⟩
  · subst h
    rcases Int.lt_trichotomy b d with h | h | h
    · have e : lexB a b a d = true := by simp [lexB, h]
      have E := Lib.hid e; clear e
      go_enter Try.func8, Try.ntmps8
      go_wp2
      refine wp_loop_rounds 2 ?_
      rw [rounds_succ]
      go_wp2
      go_quiet (fail)
      go_wp2
      go_quiet (fail)
      go_wp2
      rw [rounds_succ]
      go_wp2
      go_quiet (fail)
      go_wp2
      go_ret
      exact ⟨by rw [E.out]; rfl, by (repeat refine grown_drewN ?_ _); go_grown⟩
    · subst h
      have e : lexB a b a b = false := by simp [lexB]
      have E := Lib.hid e; clear e
      go_enter Try.func8, Try.ntmps8
      go_wp2
      refine wp_loop_rounds 3 ?_
      rw [rounds_succ]
      go_wp2
      go_quiet (fail)
      go_wp2
      go_quiet (fail)
      go_wp2
      rw [rounds_succ]
      go_wp2
      go_quiet (fail)
      go_wp2
      go_quiet (fail)
      go_wp2
      rw [rounds_succ]
      go_wp2
      go_ret
      exact ⟨by rw [E.out]; rfl, by (repeat refine grown_drewN ?_ _); go_grown⟩
    · have e : lexB a b a d = false := by simp [lexB]; omega
      have E := Lib.hid e; clear e
      go_enter Try.func8, Try.ntmps8
      go_wp2
      refine wp_loop_rounds 2 ?_
      rw [rounds_succ]
      go_wp2
      go_quiet (fail)
      go_wp2
      go_quiet (fail)
      go_wp2
      rw [rounds_succ]
      go_wp2
      go_quiet (fail)
      go_wp2
      go_quiet (fail)
      go_wp2
      go_ret
      exact ⟨by rw [E.out]; rfl, by (repeat refine grown_drewN ?_ _); go_grown⟩
  · have e : lexB a b c d = false := by simp [lexB]; omega
    have E := Lib.hid e; clear e
    go_enter Try.func8, Try.ntmps8
    go_wp2
    refine wp_loop_rounds 1 ?_
    rw [rounds_succ]
    go_wp2
    go_quiet (fail)
    go_wp2
    go_quiet (fail)
    go_wp2
    go_ret
    exact ⟨by rw [E.out]; rfl, by (repeat refine grown_drewN ?_ _); go_grown⟩

theorem grown_trans {a b c : World} (h : Grown a b) (k : Grown b c) : Grown a c :=
  ⟨World.keptBut_trans h.1 k.1, fun x => (k.2.1 x).trans (h.2.1 x), Nat.le_trans h.2.2 k.2.2⟩

theorem lexlaw_any (a b c d : Int) (w : World) :
    Calls Try.prog 3 #[.int .i64 a, .int .i64 b, .int .i64 c, .int .i64 d] w fun e w' => e = .returned (.bool true) ∧ Grown w w' := by
  go_enter Try.func3, Try.ntmps3
  go_wp2_with fail
  refine (before_any _ _ _ _ _).mono ?_
  rintro e w1 ⟨rfl, h1⟩
  go_wp2_with fail
  refine (lex_any _ _ _ _ _).mono ?_
  rintro e w2 ⟨rfl, h2⟩
  go_wp2_with fail
  go_ret
  exact ⟨by simp, grown_trans h1 h2⟩
end Go.Proofs.Ytglamlgmeknkhaa
