/- Contracts of Swap and of the reading loops. -/
import Derived.Test.YtdgnkkjkjdlmcaaLss
namespace Go.Proofs.Ytdgnkkjkjdlmcaa
open Go.RowKit
set_option linter.unusedVariables false

theorem grown_set {a w : World} {g : Nat} (h : a.grownBy w (some g)) (i : Nat) (u : Value) : a.grownBy (w.setCell ⟨g, i, none⟩ u) (some g) :=
  ⟨h.os, h.tape, h.output, by simpa [World.setCell] using h.size, fun k hk hne => (Below.heap_setCell w ⟨g, i, none⟩ u k (by intro e; exact hne (by rw [e]))).trans (h.block k hk hne)⟩
theorem grown_drew' {a w : World} {row : Option Nat} (h : a.grownBy w row) : a.grownBy w.drew row := ⟨h.os, h.tape, h.output, h.size, h.block⟩

theorem swap_any (w : World) (g n i j : Nat) (x y : Value) (cs : Array Value) (h : Blk w g 46 cs) (hi : i < n) (hj : j < n) (hle : n ≤ 65536) (sx sy : ByteArray) (hx : cs[i]? = some (.string sx)) (hy : cs[j]? = some (.string sy)) :
    Calls Try.prog 39 #[.slice (some ⟨g, 0, none⟩) n n, .int .i64 i, .int .i64 j] w fun e w' => e = .returned (.tuple #[]) ∧ Blk w' g 46 ((cs.setIfInBounds i (.string sy)).setIfInBounds j (.string sx)) ∧ w.grownBy w' (some g) := by
  have c1 : w.cell? ⟨g, i, none⟩ = some (.string sx) := by rw [h.cell]; exact hx
  have c2 : w.cell? ⟨g, j, none⟩ = some (.string sy) := by rw [h.cell]; exact hy
  have f1 := h.free i
  have f2 := h.free j
  obtain ⟨v', hv'⟩ := cell?_setCell_some (w := w) (p := ⟨g, i, none⟩) (x := .string sy) (q := ⟨g, j, none⟩) (v := .string sy) (by go_simp)
  have H := Lib.hid h
  clear h hx hy
  go_enter Try.func39, Try.ntmps39
  go_wp2
  go_region
  all_goals (go_end0; exact ⟨rfl, ((H.out.set i _).set j _).drew, grown_drew' (grown_set (grown_set (World.grownBy.refl w _) i _) j _)⟩)

def sw (ss : List ByteArray) (i j : Nat) (x y : ByteArray) : List ByteArray := (ss.set i y).set j x

theorem sw_cells (ss : List ByteArray) (i j : Nat) (x y : ByteArray) : ((((ss.map Value.string).toArray).setIfInBounds i (.string y)).setIfInBounds j (.string x)) = ((sw ss i j x y).map Value.string).toArray := by
  simp [sw, List.map_set]

theorem zswap_any (w : World) (g n i j : Nat) (ss : List ByteArray) (h : Blk w g 46 (ss.map Value.string).toArray) (hi : i < n) (hj : j < n) (hle : n ≤ 65536) (x y : ByteArray) (hx : ss[i]? = some x) (hy : ss[j]? = some y) :
    Calls Try.prog 30 #[.slice (some ⟨g, 0, none⟩) n n, .int .i64 i, .int .i64 j] w fun e w' => e = .returned (.tuple #[]) ∧ Blk w' g 46 ((sw ss i j x y).map Value.string).toArray ∧ w.grownBy w' (some g) := by
  have C := Lib.hid (swap_any w g n i j (.string x) (.string y) _ h hi hj hle x y (by simp [hx]) (by simp [hy]))
  rw [sw_cells] at C
  clear h hx hy
  go_enter Try.func30, Try.ntmps30
  go_wp2_with fail
  refine C.out.mono ?_
  rintro e w1 ⟨rfl, h1, h2⟩
  go_wp2_with fail
  go_end0
  exact ⟨rfl, h1, h2⟩
end Go.Proofs.Ytdgnkkjkjdlmcaa
