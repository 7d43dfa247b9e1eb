/- The size guards. Printed by grdz.py. -/
import Derived.Test.YtakhhnjnohnllaaFmtSpl
namespace Go.Proofs.YtakhhnjnohnllaaFmt
open Go.RowKit
set_option linter.unusedVariables false

/-- Some answer, the world as it was; 'true' only where no length is over 2^20. -/
def GuardZ (w : World) (zss : List (Nat × List ZE)) (e : Ending) (w' : World) : Prop := ∃ r : Bool, e = .returned (.bool r) ∧ w = w' ∧ (r = true → ∀ p ∈ zss, p.1 ≤ 1048576 ∧ ∀ z ∈ p.2, z.cl ≤ 1048576)

set_option maxRecDepth 100000 in
set_option maxHeartbeats 3200000 in
theorem guard5 (w : World) (a0 : Option Addr) (n0 c0 : Nat) (zs0 : List ZE) (h0 : IsZs w a0 n0 c0 zs0) :
    Calls Tryf.prog 5 #[.slice a0 n0 c0] w (GuardZ w [(n0, zs0)]) := by
  have m0 : n0 ≤ 9223372036854775807 := by have := h0.2.1; have := h0.2.2.1; unfold maxLen at this; omega
  have H0 := Lib.hid h0
  clear h0
  by_cases t0 : 1048576 < n0
  · go_enter Tryf.func5, Tryf.ntmps5
    go_wp2
    go_ret
    exact ⟨false, rfl, rfl, fun h => by cases h⟩
  go_enter Tryf.func5, Tryf.ntmps5
  go_wp2
  go_loop [3, 4] (fun t i => ∃ k x : Nat, k ≤ n0 ∧ x ≤ 1048576 ∧ i = .int .i64 k ∧ t = .int .i64 x ∧ Hid (∀ (q : Nat) (z : ZE), q < k → zs0[q]? = some z → z.cl ≤ 1048576)) (fun _ i => n0 - (intOf i).toNat)
  case atStart => exact ⟨0, n0, Nat.zero_le _, by omega, rfl, by go_num, Lib.hid fun q z h => absurd h (Nat.not_lt_zero _)⟩
  case round =>
    obtain ⟨k, x, hk, hx, rfl, rfl, HQ0⟩ := hrel
    by_cases hlt : k < n0
    · obtain ⟨z, hz⟩ : ∃ z, zs0[k]? = some z := ⟨zs0[k]'(by rw [H0.out.1]; exact hlt), by simp⟩
      obtain ⟨b, off, ha, hb, _, _, _, x3⟩ := IsZs.at (n := n0) (c := c0) H0.out.2.2.2.2.2 hz
      subst ha
      obtain ⟨q1, q2, q3, q4, q5, q6⟩ := (H0.out.2.2.2.2.1 z (List.mem_of_getElem? hz)).2.2.2
      have c63 : z.cl ≤ 9223372036854775807 := by unfold maxLen at q3; omega
      have HSS := Lib.hid q6
      have HSL := Lib.hid q1
      have HSZ := Lib.hid q5
      have HQ' := Lib.hid (fun (hc : z.cl ≤ 1048576) => show ∀ (q : Nat) (y : ZE), q < k + 1 → zs0[q]? = some y → y.cl ≤ 1048576 from fun q y hq hy => by
        rcases Nat.lt_or_ge q k with h | h
        · exact HQ0.out q y h hy
        · obtain rfl : q = k := by omega
          rw [hz] at hy
          obtain rfl := Option.some.inj hy
          exact hc)
      clear q1 q2 q3 q4 q5 q6 hz
      obtain ⟨_, _, _, ca, cl, cc, ss⟩ := z
      simp only at x3 c63
      by_cases tc : 1048576 < cl
      · go_wp2
        go_ret
        exact ⟨false, rfl, rfl, fun h => by cases h⟩
      by_cases tx : 1048576 < x + cl
      · go_wp2
        go_ret
        exact ⟨false, rfl, rfl, fun h => by cases h⟩
      go_wp2
      go_loop [3, 5] (fun t i => ∃ j y : Nat, j ≤ cl ∧ y ≤ 1048576 ∧ i = .int .i64 j ∧ t = .int .i64 y) (fun _ i => cl - (intOf i).toNat)
      case atStart => exact ⟨0, x + cl, Nat.zero_le _, by omega, rfl, by go_num⟩
      case round =>
        obtain ⟨j, y, hj, hy, rfl, rfl⟩ := hrel
        by_cases hjt : j < cl
        · have hsl : ss.length = cl := HSL.out
          obtain ⟨b2, off2, ha2, hb2, hc2⟩ := Rd.pos (show Rd w w.heap.size ca (ss.map Value.string) from HSS.out) (by simp [hsl]; omega)
          subst ha2
          obtain ⟨s, hs⟩ : ∃ s, ss[j]? = some s := ⟨ss[j]'(by rw [hsl]; exact hjt), by simp⟩
          have hcell := hc2 j (.string s) (by simp [hs])
          have h63 : s.size ≤ 9223372036854775807 := HSZ.out s (List.mem_of_getElem? hs)
          clear hc2 hs hsl
          by_cases ts : 1048576 < s.size
          · go_wp2
            go_ret
            exact ⟨false, rfl, rfl, fun h => by cases h⟩
          by_cases ty : 1048576 < y + s.size
          · go_wp2
            go_ret
            exact ⟨false, rfl, rfl, fun h => by cases h⟩
          go_wp2
          go_round
          case rel => exact ⟨j + 1, y + s.size, by omega, by omega, by go_num, by go_num⟩
          case measure => simp [intOf]; omega
        · go_wp2
          go_round
          case rel => exact ⟨k + 1, y, by omega, hy, by go_num, rfl, Lib.hid (HQ'.out (Nat.le_of_not_lt tc))⟩
          case measure => simp [intOf]; omega
    · obtain rfl : k = n0 := by omega
      go_wp2
      go_ret
      refine ⟨true, rfl, rfl, fun _ => ?_⟩
      simp only [List.mem_cons, List.not_mem_nil, or_false, forall_eq]
      exact ⟨by omega, fun z hz => by obtain ⟨q, hq⟩ := List.getElem?_of_mem hz; exact HQ0.out q z (by have := (List.getElem?_eq_some_iff.1 hq).1; have := H0.out.1; omega) hq⟩


set_option maxRecDepth 100000 in
set_option maxHeartbeats 3200000 in
theorem guard12 (w : World) (a0 : Option Addr) (n0 c0 : Nat) (zs0 : List ZE) (h0 : IsZs w a0 n0 c0 zs0) :
    Calls Tryf.prog 12 #[.slice a0 n0 c0] w (GuardZ w [(n0, zs0)]) := by
  have m0 : n0 ≤ 9223372036854775807 := by have := h0.2.1; have := h0.2.2.1; unfold maxLen at this; omega
  have H0 := Lib.hid h0
  clear h0
  by_cases t0 : 1048576 < n0
  · go_enter Tryf.func12, Tryf.ntmps12
    go_wp2
    go_ret
    exact ⟨false, rfl, rfl, fun h => by cases h⟩
  go_enter Tryf.func12, Tryf.ntmps12
  go_wp2
  go_loop [3, 4] (fun t i => ∃ k x : Nat, k ≤ n0 ∧ x ≤ 1048576 ∧ i = .int .i64 k ∧ t = .int .i64 x ∧ Hid (∀ (q : Nat) (z : ZE), q < k → zs0[q]? = some z → z.cl ≤ 1048576)) (fun _ i => n0 - (intOf i).toNat)
  case atStart => exact ⟨0, n0, Nat.zero_le _, by omega, rfl, by go_num, Lib.hid fun q z h => absurd h (Nat.not_lt_zero _)⟩
  case round =>
    obtain ⟨k, x, hk, hx, rfl, rfl, HQ0⟩ := hrel
    by_cases hlt : k < n0
    · obtain ⟨z, hz⟩ : ∃ z, zs0[k]? = some z := ⟨zs0[k]'(by rw [H0.out.1]; exact hlt), by simp⟩
      obtain ⟨b, off, ha, hb, _, _, _, x3⟩ := IsZs.at (n := n0) (c := c0) H0.out.2.2.2.2.2 hz
      subst ha
      obtain ⟨q1, q2, q3, q4, q5, q6⟩ := (H0.out.2.2.2.2.1 z (List.mem_of_getElem? hz)).2.2.2
      have c63 : z.cl ≤ 9223372036854775807 := by unfold maxLen at q3; omega
      have HSS := Lib.hid q6
      have HSL := Lib.hid q1
      have HSZ := Lib.hid q5
      have HQ' := Lib.hid (fun (hc : z.cl ≤ 1048576) => show ∀ (q : Nat) (y : ZE), q < k + 1 → zs0[q]? = some y → y.cl ≤ 1048576 from fun q y hq hy => by
        rcases Nat.lt_or_ge q k with h | h
        · exact HQ0.out q y h hy
        · obtain rfl : q = k := by omega
          rw [hz] at hy
          obtain rfl := Option.some.inj hy
          exact hc)
      clear q1 q2 q3 q4 q5 q6 hz
      obtain ⟨_, _, _, ca, cl, cc, ss⟩ := z
      simp only at x3 c63
      by_cases tc : 1048576 < cl
      · go_wp2
        go_ret
        exact ⟨false, rfl, rfl, fun h => by cases h⟩
      by_cases tx : 1048576 < x + cl
      · go_wp2
        go_ret
        exact ⟨false, rfl, rfl, fun h => by cases h⟩
      go_wp2
      go_loop [3, 5] (fun t i => ∃ j y : Nat, j ≤ cl ∧ y ≤ 1048576 ∧ i = .int .i64 j ∧ t = .int .i64 y) (fun _ i => cl - (intOf i).toNat)
      case atStart => exact ⟨0, x + cl, Nat.zero_le _, by omega, rfl, by go_num⟩
      case round =>
        obtain ⟨j, y, hj, hy, rfl, rfl⟩ := hrel
        by_cases hjt : j < cl
        · have hsl : ss.length = cl := HSL.out
          obtain ⟨b2, off2, ha2, hb2, hc2⟩ := Rd.pos (show Rd w w.heap.size ca (ss.map Value.string) from HSS.out) (by simp [hsl]; omega)
          subst ha2
          obtain ⟨s, hs⟩ : ∃ s, ss[j]? = some s := ⟨ss[j]'(by rw [hsl]; exact hjt), by simp⟩
          have hcell := hc2 j (.string s) (by simp [hs])
          have h63 : s.size ≤ 9223372036854775807 := HSZ.out s (List.mem_of_getElem? hs)
          clear hc2 hs hsl
          by_cases ts : 1048576 < s.size
          · go_wp2
            go_ret
            exact ⟨false, rfl, rfl, fun h => by cases h⟩
          by_cases ty : 1048576 < y + s.size
          · go_wp2
            go_ret
            exact ⟨false, rfl, rfl, fun h => by cases h⟩
          go_wp2
          go_round
          case rel => exact ⟨j + 1, y + s.size, by omega, by omega, by go_num, by go_num⟩
          case measure => simp [intOf]; omega
        · go_wp2
          go_round
          case rel => exact ⟨k + 1, y, by omega, hy, by go_num, rfl, Lib.hid (HQ'.out (Nat.le_of_not_lt tc))⟩
          case measure => simp [intOf]; omega
    · obtain rfl : k = n0 := by omega
      go_wp2
      go_ret
      refine ⟨true, rfl, rfl, fun _ => ?_⟩
      simp only [List.mem_cons, List.not_mem_nil, or_false, forall_eq]
      exact ⟨by omega, fun z hz => by obtain ⟨q, hq⟩ := List.getElem?_of_mem hz; exact HQ0.out q z (by have := (List.getElem?_eq_some_iff.1 hq).1; have := H0.out.1; omega) hq⟩


end Go.Proofs.YtakhhnjnohnllaaFmt
