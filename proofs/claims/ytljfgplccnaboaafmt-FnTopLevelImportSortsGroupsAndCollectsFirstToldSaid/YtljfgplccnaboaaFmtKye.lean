/- An element's key and variable. -/
import Derived.Test.YtljfgplccnaboaaFmtLwh
namespace Go.Proofs.YtljfgplccnaboaaFmt
open Go.RowKit
set_option linter.unusedVariables false

set_option maxRecDepth 100000 in
theorem key17e (w : World) (e : IE) : Calls Tryf.prog 17 #[.agg e.cells.toArray] w fun x w' => x = .returned (.string e.key) ∧ Below w.heap.size w w' := by
  obtain ⟨aa, al, ac, key, va, vl, vc, body, var⟩ := e
  cases body
  all_goals
    simp only [IE.cells, bvOf]
    go_enter Tryf.func17, Tryf.ntmps17
    go_wp2
    go_ret
    exact ⟨rfl, by go_grown⟩
set_option maxRecDepth 100000 in
theorem var18e (w : World) (e : IE) : Calls Tryf.prog 18 #[.agg e.cells.toArray] w fun x w' => x = .returned (.string e.var) ∧ Below w.heap.size w w' := by
  obtain ⟨aa, al, ac, key, va, vl, vc, body, var⟩ := e
  cases body
  all_goals
    simp only [IE.cells, bvOf]
    go_enter Tryf.func18, Tryf.ntmps18
    go_wp2
    go_ret
    exact ⟨rfl, by go_grown⟩
end Go.Proofs.YtljfgplccnaboaaFmt
