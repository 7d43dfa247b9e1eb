/- Contracts of LocationRangeBetween, zzSameRange, LocationBefore, in the form that keeps the callers memory. -/
import Derived.Test.YtglamlgmeknkhaaLoc
import Derived.StillTailTactics
import Derived.Lib.Builder
namespace Go.Proofs.Ytglamlgmeknkhaa
open Go.RowKit

def rangeV (F : Option Addr) (s : ByteArray) (a b c d : Int) : Value := .agg #[.pointer F, .string s, .int .i64 a, .int .i64 b, .int .i64 c, .int .i64 d]

/-- The six cells of a range at block x. -/
def HoldsRange (w : World) (x : Nat) (F : Option Addr) (s : ByteArray) (a b c d : Int) : Prop :=
  w.cell? ⟨x, 0, none⟩ = some (.pointer F) ∧ w.cell? ⟨x, 1, none⟩ = some (.string s) ∧ w.cell? ⟨x, 2, none⟩ = some (.int .i64 a) ∧ w.cell? ⟨x, 3, none⟩ = some (.int .i64 b) ∧ w.cell? ⟨x, 4, none⟩ = some (.int .i64 c) ∧ w.cell? ⟨x, 5, none⟩ = some (.int .i64 d)

theorem below_grown {w w' : World} (h : Below w.heap.size w w') (hn : ∀ a, w'.frozen? a = w.frozen? a) : Grown w w' := ⟨h.frame _, hn, h.size⟩

theorem wp_region_tail {P : Program} {id : Nat} {Q : Exit → Act → World → Prop} {a : Act} {w : World} {l : List Oper} (n : Nat) (hm : P.follows .mixedOrders = true) (hB : Region.lexTailB .any l.toArray n = true)
    (h : wpStill P l.toArray w.drew (fun a' => wpList P l.toArray Q (l.drop n) a' w.drew) (l.take n) a) : (Code.region id l.toArray true).wp P Q a w :=
  wp_region_still_tail n hm hB h
theorem Try.info43 : Try.prog.info? 43 = some (Option.get (Try.prog.info? 43) (by kernel_rfl)) := by kernel_rfl
theorem between_any (w : World) (x y : Nat) (F : Option Nat) (s t : ByteArray) (a b c d e f g h : Int)
    (hx : HoldsRange w x (F.map fun k => ⟨k, 0, none⟩) s a b c d) (hy : HoldsRange w y (F.map fun k => ⟨k, 0, none⟩) t e f g h) :
    Calls Try.prog 15 #[.pointer (some ⟨x, 0, none⟩), .pointer (some ⟨y, 0, none⟩)] w fun z w' => z = .returned (rangeV (F.map fun k => ⟨k, 0, none⟩) s a b g h) ∧ Below w.heap.size w w' := by
  obtain ⟨x0, x1, x2, x3, x4, x5⟩ := hx
  obtain ⟨y0, y1, y2, y3, y4, y5⟩ := hy
  have lx : x < w.heap.size := World.block_lt_of_cell? w _ x0
  have ly : y < w.heap.size := World.block_lt_of_cell? w _ y0
  have np := fun (w : World) (k : Nat) => Lib.run_neq_ptr_same (P := Try.prog) w (tp := 29) (te := 43) ⟨k, 0, none⟩ Try.underlying29 Try.info43
  cases F
  all_goals
    simp only [Option.map_none, Option.map_some] at x0 y0
    go_enter Try.func15, Try.ntmps15
    go_wp2
    go_quiet (fail)
    go_wp2
    refine wp_region_tail 16 (by kernel_rfl) (by kernel_rfl) ?_
    simp only [List.take_succ_cons, List.take_zero, List.drop_succ_cons, List.drop_zero]
    repeat still_step
    refine wpStill_nil ?_
    go_wp2
    go_returns
    refine ⟨by first | rfl | (simp [rangeV]; done), ?_⟩
    go_grown
    all_goals (refine below_drewN ?_ _; go_grown)

theorem same_any (w : World) (F : Option Nat) (s : ByteArray) (a b c d : Int) :
    Calls Try.prog 16 #[rangeV (F.map fun k => ⟨k, 0, none⟩) s a b c d, rangeV (F.map fun k => ⟨k, 0, none⟩) s a b c d] w fun z w' => z = .returned (.bool true) ∧ Below w.heap.size w w' := by
  have np := fun (w : World) (k : Nat) => run_eql_ptr_same (P := Try.prog) w (tp := 29) (te := 43) ⟨k, 0, none⟩ Try.underlying29 Try.info43
  unfold rangeV
  cases F
  all_goals
    simp only [Option.map_none, Option.map_some]
    go_enter Try.func16, Try.ntmps16
    go_wp2
    go_ret
    exact ⟨rfl, by go_grown⟩

theorem bcell {W w1 : World} (hb : Below W.heap.size W w1) : (∀ b o, b < W.heap.size → w1.cell? ⟨b, o, none⟩ = W.cell? ⟨b, o, none⟩) ∧ (∀ b o, b < W.heap.size → w1.frozen? ⟨b, o, none⟩ = W.frozen? ⟨b, o, none⟩) :=
  ⟨fun b o h => hb.cell (p := ⟨b, o, none⟩) h, fun b o h => hb.frozen (p := ⟨b, o, none⟩) h⟩

theorem before_bel (a b c d : Int) (w : World) :
    Calls Try.prog 7 #[.agg #[.int .i64 a, .int .i64 b], .agg #[.int .i64 c, .int .i64 d]] w fun e w' => e = .returned (.bool (lexB a b c d)) ∧ Below w.heap.size w w' := by
  by_cases h : a = c
  · subst h
    have e : lexB a b a d = decide (b < d) := by simp [lexB]
    have E := Lib.hid e; clear e
    go_enter Try.func7, Try.ntmps7
    go_wp2
    go_ret
    exact ⟨by rw [E.out]; rfl, by go_grown⟩
  · have e : lexB a b c d = decide (a < c) := by simp [lexB, h]
    have E := Lib.hid e; clear e
    have hn : (a != c) = true := by simpa using h
    clear h
    go_enter Try.func7, Try.ntmps7
    go_wp2
    go_ret
    exact ⟨by rw [E.out]; rfl, by go_grown⟩
theorem lex_bel (a b c d : Int) (w : World) :
    Calls Try.prog 8 #[.agg #[.int .i64 a, .int .i64 b], .agg #[.int .i64 c, .int .i64 d]] w fun e w' => e = .returned (.bool (lexB a b c d)) ∧ Below w.heap.size w w' := by
  rcases Int.lt_trichotomy a c with h | h | h
  · have e : lexB a b c d = true := by simp [lexB, h]
    have E := Lib.hid e; clear e
    go_enter Try.func8, Try.ntmps8
    go_wp2
    refine wp_loop_rounds 1 ?_
    rw [rounds_succ]
    go_wp2
    go_quiet (fail)
    go_wp2
    go_ret
    exact ⟨by rw [E.out]; rfl, by (repeat refine below_drewN ?_ _); go_grown⟩
  · subst h
    rcases Int.lt_trichotomy b d with h | h | h
    · have e : lexB a b a d = true := by simp [lexB, h]
      have E := Lib.hid e; clear e
      go_enter Try.func8, Try.ntmps8
      go_wp2
      refine wp_loop_rounds 2 ?_
      rw [rounds_succ]
      go_wp2
      go_quiet (fail)
      go_wp2
      go_quiet (fail)
      go_wp2
      rw [rounds_succ]
      go_wp2
      go_quiet (fail)
      go_wp2
      go_ret
      exact ⟨by rw [E.out]; rfl, by (repeat refine below_drewN ?_ _); go_grown⟩
    · subst h
      have e : lexB a b a b = false := by simp [lexB]
      have E := Lib.hid e; clear e
      go_enter Try.func8, Try.ntmps8
      go_wp2
      refine wp_loop_rounds 3 ?_
      rw [rounds_succ]
      go_wp2
      go_quiet (fail)
      go_wp2
      go_quiet (fail)
      go_wp2
      rw [rounds_succ]
      go_wp2
      go_quiet (fail)
      go_wp2
      go_quiet (fail)
      go_wp2
      rw [rounds_succ]
      go_wp2
      go_ret
      exact ⟨by rw [E.out]; rfl, by (repeat refine below_drewN ?_ _); go_grown⟩
    · have e : lexB a b a d = false := by simp [lexB]; omega
      have E := Lib.hid e; clear e
      go_enter Try.func8, Try.ntmps8
      go_wp2
      refine wp_loop_rounds 2 ?_
      rw [rounds_succ]
      go_wp2
      go_quiet (fail)
      go_wp2
      go_quiet (fail)
      go_wp2
      rw [rounds_succ]
      go_wp2
      go_quiet (fail)
      go_wp2
      go_quiet (fail)
      go_wp2
      go_ret
      exact ⟨by rw [E.out]; rfl, by (repeat refine below_drewN ?_ _); go_grown⟩
  · have e : lexB a b c d = false := by simp [lexB]; omega
    have E := Lib.hid e; clear e
    go_enter Try.func8, Try.ntmps8
    go_wp2
    refine wp_loop_rounds 1 ?_
    rw [rounds_succ]
    go_wp2
    go_quiet (fail)
    go_wp2
    go_quiet (fail)
    go_wp2
    go_ret
    exact ⟨by rw [E.out]; rfl, by (repeat refine below_drewN ?_ _); go_grown⟩

end Go.Proofs.Ytglamlgmeknkhaa
