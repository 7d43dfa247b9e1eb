/- The size guards. Printed by grdz.py. -/
import Derived.Test.YtofhjpmkpgbgiaaGrd
namespace Go.Proofs.Ytofhjpmkpgbgiaa
open Go.RowKit
set_option linter.unusedVariables false




set_option maxRecDepth 100000 in
set_option maxHeartbeats 3200000 in
theorem guard18 (w : World) (a0 : Option Addr) (n0 c0 : Nat) (zs0 : List ZE) (a1 : Option Addr) (n1 c1 : Nat) (zs1 : List ZE) (h0 : IsZs w a0 n0 c0 zs0) (h1 : IsZs w a1 n1 c1 zs1) :
    Calls Try.prog 18 #[.slice a0 n0 c0, .slice a1 n1 c1] w (GuardZ w [(n0, zs0), (n1, zs1)]) := by
  have m0 : n0 ≤ 9223372036854775807 := by have := h0.2.1; have := h0.2.2.1; unfold maxLen at this; omega
  have H0 := Lib.hid h0
  clear h0
  have m1 : n1 ≤ 9223372036854775807 := by have := h1.2.1; have := h1.2.2.1; unfold maxLen at this; omega
  have H1 := Lib.hid h1
  clear h1
  by_cases t0 : 1048576 < n0
  · go_enter Try.func18, Try.ntmps18
    go_wp2
    go_ret
    exact ⟨false, rfl, rfl, fun h => by cases h⟩
  go_enter Try.func18, Try.ntmps18
  go_wp2
  go_loop [5, 6] (fun t i => ∃ k x : Nat, k ≤ n0 ∧ x ≤ 1048576 ∧ i = .int .i64 k ∧ t = .int .i64 x ∧ Hid (∀ (q : Nat) (z : ZE), q < k → zs0[q]? = some z → z.cl ≤ 1048576)) (fun _ i => n0 - (intOf i).toNat)
  case atStart => exact ⟨0, n0, Nat.zero_le _, by omega, rfl, by go_num, Lib.hid fun q z h => absurd h (Nat.not_lt_zero _)⟩
  case round =>
    obtain ⟨k, x, hk, hx, rfl, rfl, HQ0⟩ := hrel
    by_cases hlt : k < n0
    · obtain ⟨z, hz⟩ : ∃ z, zs0[k]? = some z := ⟨zs0[k]'(by rw [H0.out.1]; exact hlt), by simp⟩
      obtain ⟨b, off, ha, hb, _, _, _, x3⟩ := IsZs.at (n := n0) (c := c0) H0.out.2.2.2.2.2 hz
      subst ha
      obtain ⟨q1, q2, q3, q4, q5, q6⟩ := (H0.out.2.2.2.2.1 z (List.mem_of_getElem? hz)).2.2.2
      have c63 : z.cl ≤ 9223372036854775807 := by unfold maxLen at q3; omega
      have HSS := Lib.hid q6
      have HSL := Lib.hid q1
      have HSZ := Lib.hid q5
      have HQ' := Lib.hid (fun (hc : z.cl ≤ 1048576) => show ∀ (q : Nat) (y : ZE), q < k + 1 → zs0[q]? = some y → y.cl ≤ 1048576 from fun q y hq hy => by
        rcases Nat.lt_or_ge q k with h | h
        · exact HQ0.out q y h hy
        · obtain rfl : q = k := by omega
          rw [hz] at hy
          obtain rfl := Option.some.inj hy
          exact hc)
      clear q1 q2 q3 q4 q5 q6 hz
      obtain ⟨_, _, _, ca, cl, cc, ss⟩ := z
      simp only at x3 c63
      by_cases tc : 1048576 < cl
      · go_wp2
        go_ret
        exact ⟨false, rfl, rfl, fun h => by cases h⟩
      by_cases tx : 1048576 < x + cl
      · go_wp2
        go_ret
        exact ⟨false, rfl, rfl, fun h => by cases h⟩
      go_wp2
      go_loop [5, 7] (fun t i => ∃ j y : Nat, j ≤ cl ∧ y ≤ 1048576 ∧ i = .int .i64 j ∧ t = .int .i64 y) (fun _ i => cl - (intOf i).toNat)
      case atStart => exact ⟨0, x + cl, Nat.zero_le _, by omega, rfl, by go_num⟩
      case round =>
        obtain ⟨j, y, hj, hy, rfl, rfl⟩ := hrel
        by_cases hjt : j < cl
        · have hsl : ss.length = cl := HSL.out
          obtain ⟨b2, off2, ha2, hb2, hc2⟩ := Rd.pos (show Rd w w.heap.size ca (ss.map Value.string) from HSS.out) (by simp [hsl]; omega)
          subst ha2
          obtain ⟨s, hs⟩ : ∃ s, ss[j]? = some s := ⟨ss[j]'(by rw [hsl]; exact hjt), by simp⟩
          have hcell := hc2 j (.string s) (by simp [hs])
          have h63 : s.size ≤ 9223372036854775807 := HSZ.out s (List.mem_of_getElem? hs)
          clear hc2 hs hsl
          by_cases ts : 1048576 < s.size
          · go_wp2
            go_ret
            exact ⟨false, rfl, rfl, fun h => by cases h⟩
          by_cases ty : 1048576 < y + s.size
          · go_wp2
            go_ret
            exact ⟨false, rfl, rfl, fun h => by cases h⟩
          go_wp2
          go_round
          case rel => exact ⟨j + 1, y + s.size, by omega, by omega, by go_num, by go_num⟩
          case measure => simp [intOf]; omega
        · go_wp2
          go_round
          case rel => exact ⟨k + 1, y, by omega, hy, by go_num, rfl, Lib.hid (HQ'.out (Nat.le_of_not_lt tc))⟩
          case measure => simp [intOf]; omega
    · obtain rfl : k = n0 := by omega
      by_cases t1 : 1048576 < n1
      · go_wp2
        go_ret
        exact ⟨false, rfl, rfl, fun h => by cases h⟩
      by_cases s1 : 1048576 < x + n1
      · go_wp2
        go_ret
        exact ⟨false, rfl, rfl, fun h => by cases h⟩
      go_wp2
      go_loop [5, 8] (fun t i => ∃ k x : Nat, k ≤ n1 ∧ x ≤ 1048576 ∧ i = .int .i64 k ∧ t = .int .i64 x ∧ Hid (∀ (q : Nat) (z : ZE), q < k → zs1[q]? = some z → z.cl ≤ 1048576)) (fun _ i => n1 - (intOf i).toNat)
      case atStart => exact ⟨0, x + n1, Nat.zero_le _, by omega, rfl, by go_num, Lib.hid fun q z h => absurd h (Nat.not_lt_zero _)⟩
      case round =>
        obtain ⟨k, x, hk, hx, rfl, rfl, HQ1⟩ := hrel
        by_cases hlt : k < n1
        · obtain ⟨z, hz⟩ : ∃ z, zs1[k]? = some z := ⟨zs1[k]'(by rw [H1.out.1]; exact hlt), by simp⟩
          obtain ⟨b, off, ha, hb, _, _, _, x3⟩ := IsZs.at (n := n1) (c := c1) H1.out.2.2.2.2.2 hz
          subst ha
          obtain ⟨q1, q2, q3, q4, q5, q6⟩ := (H1.out.2.2.2.2.1 z (List.mem_of_getElem? hz)).2.2.2
          have c63 : z.cl ≤ 9223372036854775807 := by unfold maxLen at q3; omega
          have HSS := Lib.hid q6
          have HSL := Lib.hid q1
          have HSZ := Lib.hid q5
          have HQ' := Lib.hid (fun (hc : z.cl ≤ 1048576) => show ∀ (q : Nat) (y : ZE), q < k + 1 → zs1[q]? = some y → y.cl ≤ 1048576 from fun q y hq hy => by
            rcases Nat.lt_or_ge q k with h | h
            · exact HQ1.out q y h hy
            · obtain rfl : q = k := by omega
              rw [hz] at hy
              obtain rfl := Option.some.inj hy
              exact hc)
          clear q1 q2 q3 q4 q5 q6 hz
          obtain ⟨_, _, _, ca, cl, cc, ss⟩ := z
          simp only at x3 c63
          by_cases tc : 1048576 < cl
          · go_wp2
            go_ret
            exact ⟨false, rfl, rfl, fun h => by cases h⟩
          by_cases tx : 1048576 < x + cl
          · go_wp2
            go_ret
            exact ⟨false, rfl, rfl, fun h => by cases h⟩
          go_wp2
          go_loop [5, 9] (fun t i => ∃ j y : Nat, j ≤ cl ∧ y ≤ 1048576 ∧ i = .int .i64 j ∧ t = .int .i64 y) (fun _ i => cl - (intOf i).toNat)
          case atStart => exact ⟨0, x + cl, Nat.zero_le _, by omega, rfl, by go_num⟩
          case round =>
            obtain ⟨j, y, hj, hy, rfl, rfl⟩ := hrel
            by_cases hjt : j < cl
            · have hsl : ss.length = cl := HSL.out
              obtain ⟨b2, off2, ha2, hb2, hc2⟩ := Rd.pos (show Rd w w.heap.size ca (ss.map Value.string) from HSS.out) (by simp [hsl]; omega)
              subst ha2
              obtain ⟨s, hs⟩ : ∃ s, ss[j]? = some s := ⟨ss[j]'(by rw [hsl]; exact hjt), by simp⟩
              have hcell := hc2 j (.string s) (by simp [hs])
              have h63 : s.size ≤ 9223372036854775807 := HSZ.out s (List.mem_of_getElem? hs)
              clear hc2 hs hsl
              by_cases ts : 1048576 < s.size
              · go_wp2
                go_ret
                exact ⟨false, rfl, rfl, fun h => by cases h⟩
              by_cases ty : 1048576 < y + s.size
              · go_wp2
                go_ret
                exact ⟨false, rfl, rfl, fun h => by cases h⟩
              go_wp2
              go_round
              case rel => exact ⟨j + 1, y + s.size, by omega, by omega, by go_num, by go_num⟩
              case measure => simp [intOf]; omega
            · go_wp2
              go_round
              case rel => exact ⟨k + 1, y, by omega, hy, by go_num, rfl, Lib.hid (HQ'.out (Nat.le_of_not_lt tc))⟩
              case measure => simp [intOf]; omega
        · obtain rfl : k = n1 := by omega
          go_wp2
          go_ret
          refine ⟨true, rfl, rfl, fun _ => ?_⟩
          simp only [List.mem_cons, List.not_mem_nil, or_false, forall_eq_or_imp, forall_eq]
          exact ⟨⟨by omega, fun z hz => by obtain ⟨q, hq⟩ := List.getElem?_of_mem hz; exact HQ0.out q z (by have := (List.getElem?_eq_some_iff.1 hq).1; have := H0.out.1; omega) hq⟩, by omega, fun z hz => by obtain ⟨q, hq⟩ := List.getElem?_of_mem hz; exact HQ1.out q z (by have := (List.getElem?_eq_some_iff.1 hq).1; have := H1.out.1; omega) hq⟩


set_option maxRecDepth 100000 in
set_option maxHeartbeats 3200000 in
theorem guard22 (w : World) (a0 : Option Addr) (n0 c0 : Nat) (zs0 : List ZE) (a1 : Option Addr) (n1 c1 : Nat) (zs1 : List ZE) (h0 : IsZs w a0 n0 c0 zs0) (h1 : IsZs w a1 n1 c1 zs1) :
    Calls Try.prog 22 #[.slice a0 n0 c0, .slice a1 n1 c1] w (GuardZ w [(n0, zs0), (n1, zs1)]) := by
  have m0 : n0 ≤ 9223372036854775807 := by have := h0.2.1; have := h0.2.2.1; unfold maxLen at this; omega
  have H0 := Lib.hid h0
  clear h0
  have m1 : n1 ≤ 9223372036854775807 := by have := h1.2.1; have := h1.2.2.1; unfold maxLen at this; omega
  have H1 := Lib.hid h1
  clear h1
  by_cases t0 : 1048576 < n0
  · go_enter Try.func22, Try.ntmps22
    go_wp2
    go_ret
    exact ⟨false, rfl, rfl, fun h => by cases h⟩
  go_enter Try.func22, Try.ntmps22
  go_wp2
  go_loop [5, 6] (fun t i => ∃ k x : Nat, k ≤ n0 ∧ x ≤ 1048576 ∧ i = .int .i64 k ∧ t = .int .i64 x ∧ Hid (∀ (q : Nat) (z : ZE), q < k → zs0[q]? = some z → z.cl ≤ 1048576)) (fun _ i => n0 - (intOf i).toNat)
  case atStart => exact ⟨0, n0, Nat.zero_le _, by omega, rfl, by go_num, Lib.hid fun q z h => absurd h (Nat.not_lt_zero _)⟩
  case round =>
    obtain ⟨k, x, hk, hx, rfl, rfl, HQ0⟩ := hrel
    by_cases hlt : k < n0
    · obtain ⟨z, hz⟩ : ∃ z, zs0[k]? = some z := ⟨zs0[k]'(by rw [H0.out.1]; exact hlt), by simp⟩
      obtain ⟨b, off, ha, hb, _, _, _, x3⟩ := IsZs.at (n := n0) (c := c0) H0.out.2.2.2.2.2 hz
      subst ha
      obtain ⟨q1, q2, q3, q4, q5, q6⟩ := (H0.out.2.2.2.2.1 z (List.mem_of_getElem? hz)).2.2.2
      have c63 : z.cl ≤ 9223372036854775807 := by unfold maxLen at q3; omega
      have HSS := Lib.hid q6
      have HSL := Lib.hid q1
      have HSZ := Lib.hid q5
      have HQ' := Lib.hid (fun (hc : z.cl ≤ 1048576) => show ∀ (q : Nat) (y : ZE), q < k + 1 → zs0[q]? = some y → y.cl ≤ 1048576 from fun q y hq hy => by
        rcases Nat.lt_or_ge q k with h | h
        · exact HQ0.out q y h hy
        · obtain rfl : q = k := by omega
          rw [hz] at hy
          obtain rfl := Option.some.inj hy
          exact hc)
      clear q1 q2 q3 q4 q5 q6 hz
      obtain ⟨_, _, _, ca, cl, cc, ss⟩ := z
      simp only at x3 c63
      by_cases tc : 1048576 < cl
      · go_wp2
        go_ret
        exact ⟨false, rfl, rfl, fun h => by cases h⟩
      by_cases tx : 1048576 < x + cl
      · go_wp2
        go_ret
        exact ⟨false, rfl, rfl, fun h => by cases h⟩
      go_wp2
      go_loop [5, 7] (fun t i => ∃ j y : Nat, j ≤ cl ∧ y ≤ 1048576 ∧ i = .int .i64 j ∧ t = .int .i64 y) (fun _ i => cl - (intOf i).toNat)
      case atStart => exact ⟨0, x + cl, Nat.zero_le _, by omega, rfl, by go_num⟩
      case round =>
        obtain ⟨j, y, hj, hy, rfl, rfl⟩ := hrel
        by_cases hjt : j < cl
        · have hsl : ss.length = cl := HSL.out
          obtain ⟨b2, off2, ha2, hb2, hc2⟩ := Rd.pos (show Rd w w.heap.size ca (ss.map Value.string) from HSS.out) (by simp [hsl]; omega)
          subst ha2
          obtain ⟨s, hs⟩ : ∃ s, ss[j]? = some s := ⟨ss[j]'(by rw [hsl]; exact hjt), by simp⟩
          have hcell := hc2 j (.string s) (by simp [hs])
          have h63 : s.size ≤ 9223372036854775807 := HSZ.out s (List.mem_of_getElem? hs)
          clear hc2 hs hsl
          by_cases ts : 1048576 < s.size
          · go_wp2
            go_ret
            exact ⟨false, rfl, rfl, fun h => by cases h⟩
          by_cases ty : 1048576 < y + s.size
          · go_wp2
            go_ret
            exact ⟨false, rfl, rfl, fun h => by cases h⟩
          go_wp2
          go_round
          case rel => exact ⟨j + 1, y + s.size, by omega, by omega, by go_num, by go_num⟩
          case measure => simp [intOf]; omega
        · go_wp2
          go_round
          case rel => exact ⟨k + 1, y, by omega, hy, by go_num, rfl, Lib.hid (HQ'.out (Nat.le_of_not_lt tc))⟩
          case measure => simp [intOf]; omega
    · obtain rfl : k = n0 := by omega
      by_cases t1 : 1048576 < n1
      · go_wp2
        go_ret
        exact ⟨false, rfl, rfl, fun h => by cases h⟩
      by_cases s1 : 1048576 < x + n1
      · go_wp2
        go_ret
        exact ⟨false, rfl, rfl, fun h => by cases h⟩
      go_wp2
      go_loop [5, 8] (fun t i => ∃ k x : Nat, k ≤ n1 ∧ x ≤ 1048576 ∧ i = .int .i64 k ∧ t = .int .i64 x ∧ Hid (∀ (q : Nat) (z : ZE), q < k → zs1[q]? = some z → z.cl ≤ 1048576)) (fun _ i => n1 - (intOf i).toNat)
      case atStart => exact ⟨0, x + n1, Nat.zero_le _, by omega, rfl, by go_num, Lib.hid fun q z h => absurd h (Nat.not_lt_zero _)⟩
      case round =>
        obtain ⟨k, x, hk, hx, rfl, rfl, HQ1⟩ := hrel
        by_cases hlt : k < n1
        · obtain ⟨z, hz⟩ : ∃ z, zs1[k]? = some z := ⟨zs1[k]'(by rw [H1.out.1]; exact hlt), by simp⟩
          obtain ⟨b, off, ha, hb, _, _, _, x3⟩ := IsZs.at (n := n1) (c := c1) H1.out.2.2.2.2.2 hz
          subst ha
          obtain ⟨q1, q2, q3, q4, q5, q6⟩ := (H1.out.2.2.2.2.1 z (List.mem_of_getElem? hz)).2.2.2
          have c63 : z.cl ≤ 9223372036854775807 := by unfold maxLen at q3; omega
          have HSS := Lib.hid q6
          have HSL := Lib.hid q1
          have HSZ := Lib.hid q5
          have HQ' := Lib.hid (fun (hc : z.cl ≤ 1048576) => show ∀ (q : Nat) (y : ZE), q < k + 1 → zs1[q]? = some y → y.cl ≤ 1048576 from fun q y hq hy => by
            rcases Nat.lt_or_ge q k with h | h
            · exact HQ1.out q y h hy
            · obtain rfl : q = k := by omega
              rw [hz] at hy
              obtain rfl := Option.some.inj hy
              exact hc)
          clear q1 q2 q3 q4 q5 q6 hz
          obtain ⟨_, _, _, ca, cl, cc, ss⟩ := z
          simp only at x3 c63
          by_cases tc : 1048576 < cl
          · go_wp2
            go_ret
            exact ⟨false, rfl, rfl, fun h => by cases h⟩
          by_cases tx : 1048576 < x + cl
          · go_wp2
            go_ret
            exact ⟨false, rfl, rfl, fun h => by cases h⟩
          go_wp2
          go_loop [5, 9] (fun t i => ∃ j y : Nat, j ≤ cl ∧ y ≤ 1048576 ∧ i = .int .i64 j ∧ t = .int .i64 y) (fun _ i => cl - (intOf i).toNat)
          case atStart => exact ⟨0, x + cl, Nat.zero_le _, by omega, rfl, by go_num⟩
          case round =>
            obtain ⟨j, y, hj, hy, rfl, rfl⟩ := hrel
            by_cases hjt : j < cl
            · have hsl : ss.length = cl := HSL.out
              obtain ⟨b2, off2, ha2, hb2, hc2⟩ := Rd.pos (show Rd w w.heap.size ca (ss.map Value.string) from HSS.out) (by simp [hsl]; omega)
              subst ha2
              obtain ⟨s, hs⟩ : ∃ s, ss[j]? = some s := ⟨ss[j]'(by rw [hsl]; exact hjt), by simp⟩
              have hcell := hc2 j (.string s) (by simp [hs])
              have h63 : s.size ≤ 9223372036854775807 := HSZ.out s (List.mem_of_getElem? hs)
              clear hc2 hs hsl
              by_cases ts : 1048576 < s.size
              · go_wp2
                go_ret
                exact ⟨false, rfl, rfl, fun h => by cases h⟩
              by_cases ty : 1048576 < y + s.size
              · go_wp2
                go_ret
                exact ⟨false, rfl, rfl, fun h => by cases h⟩
              go_wp2
              go_round
              case rel => exact ⟨j + 1, y + s.size, by omega, by omega, by go_num, by go_num⟩
              case measure => simp [intOf]; omega
            · go_wp2
              go_round
              case rel => exact ⟨k + 1, y, by omega, hy, by go_num, rfl, Lib.hid (HQ'.out (Nat.le_of_not_lt tc))⟩
              case measure => simp [intOf]; omega
        · obtain rfl : k = n1 := by omega
          go_wp2
          go_ret
          refine ⟨true, rfl, rfl, fun _ => ?_⟩
          simp only [List.mem_cons, List.not_mem_nil, or_false, forall_eq_or_imp, forall_eq]
          exact ⟨⟨by omega, fun z hz => by obtain ⟨q, hq⟩ := List.getElem?_of_mem hz; exact HQ0.out q z (by have := (List.getElem?_eq_some_iff.1 hq).1; have := H0.out.1; omega) hq⟩, by omega, fun z hz => by obtain ⟨q, hq⟩ := List.getElem?_of_mem hz; exact HQ1.out q z (by have := (List.getElem?_eq_some_iff.1 hq).1; have := H1.out.1; omega) hq⟩


set_option maxRecDepth 100000 in
set_option maxHeartbeats 3200000 in
theorem guard15 (w : World) (a0 : Option Addr) (n0 c0 : Nat) (zs0 : List ZE) (a1 : Option Addr) (n1 c1 : Nat) (zs1 : List ZE) (x0 : Int) (x1 : Int) (h0 : IsZs w a0 n0 c0 zs0) (h1 : IsZs w a1 n1 c1 zs1) :
    Calls Try.prog 15 #[.slice a0 n0 c0, .slice a1 n1 c1, .int .i64 x0, .int .i64 x1] w (GuardZ w [(n0, zs0), (n1, zs1)]) := by
  have m0 : n0 ≤ 9223372036854775807 := by have := h0.2.1; have := h0.2.2.1; unfold maxLen at this; omega
  have H0 := Lib.hid h0
  clear h0
  have m1 : n1 ≤ 9223372036854775807 := by have := h1.2.1; have := h1.2.2.1; unfold maxLen at this; omega
  have H1 := Lib.hid h1
  clear h1
  by_cases t0 : 1048576 < n0
  · go_enter Try.func15, Try.ntmps15
    go_wp2
    go_ret
    exact ⟨false, rfl, rfl, fun h => by cases h⟩
  go_enter Try.func15, Try.ntmps15
  go_wp2
  go_loop [9, 10] (fun t i => ∃ k x : Nat, k ≤ n0 ∧ x ≤ 1048576 ∧ i = .int .i64 k ∧ t = .int .i64 x ∧ Hid (∀ (q : Nat) (z : ZE), q < k → zs0[q]? = some z → z.cl ≤ 1048576)) (fun _ i => n0 - (intOf i).toNat)
  case atStart => exact ⟨0, n0, Nat.zero_le _, by omega, rfl, by go_num, Lib.hid fun q z h => absurd h (Nat.not_lt_zero _)⟩
  case round =>
    obtain ⟨k, x, hk, hx, rfl, rfl, HQ0⟩ := hrel
    by_cases hlt : k < n0
    · obtain ⟨z, hz⟩ : ∃ z, zs0[k]? = some z := ⟨zs0[k]'(by rw [H0.out.1]; exact hlt), by simp⟩
      obtain ⟨b, off, ha, hb, _, _, _, x3⟩ := IsZs.at (n := n0) (c := c0) H0.out.2.2.2.2.2 hz
      subst ha
      obtain ⟨q1, q2, q3, q4, q5, q6⟩ := (H0.out.2.2.2.2.1 z (List.mem_of_getElem? hz)).2.2.2
      have c63 : z.cl ≤ 9223372036854775807 := by unfold maxLen at q3; omega
      have HSS := Lib.hid q6
      have HSL := Lib.hid q1
      have HSZ := Lib.hid q5
      have HQ' := Lib.hid (fun (hc : z.cl ≤ 1048576) => show ∀ (q : Nat) (y : ZE), q < k + 1 → zs0[q]? = some y → y.cl ≤ 1048576 from fun q y hq hy => by
        rcases Nat.lt_or_ge q k with h | h
        · exact HQ0.out q y h hy
        · obtain rfl : q = k := by omega
          rw [hz] at hy
          obtain rfl := Option.some.inj hy
          exact hc)
      clear q1 q2 q3 q4 q5 q6 hz
      obtain ⟨_, _, _, ca, cl, cc, ss⟩ := z
      simp only at x3 c63
      by_cases tc : 1048576 < cl
      · go_wp2
        go_ret
        exact ⟨false, rfl, rfl, fun h => by cases h⟩
      by_cases tx : 1048576 < x + cl
      · go_wp2
        go_ret
        exact ⟨false, rfl, rfl, fun h => by cases h⟩
      go_wp2
      go_loop [9, 11] (fun t i => ∃ j y : Nat, j ≤ cl ∧ y ≤ 1048576 ∧ i = .int .i64 j ∧ t = .int .i64 y) (fun _ i => cl - (intOf i).toNat)
      case atStart => exact ⟨0, x + cl, Nat.zero_le _, by omega, rfl, by go_num⟩
      case round =>
        obtain ⟨j, y, hj, hy, rfl, rfl⟩ := hrel
        by_cases hjt : j < cl
        · have hsl : ss.length = cl := HSL.out
          obtain ⟨b2, off2, ha2, hb2, hc2⟩ := Rd.pos (show Rd w w.heap.size ca (ss.map Value.string) from HSS.out) (by simp [hsl]; omega)
          subst ha2
          obtain ⟨s, hs⟩ : ∃ s, ss[j]? = some s := ⟨ss[j]'(by rw [hsl]; exact hjt), by simp⟩
          have hcell := hc2 j (.string s) (by simp [hs])
          have h63 : s.size ≤ 9223372036854775807 := HSZ.out s (List.mem_of_getElem? hs)
          clear hc2 hs hsl
          by_cases ts : 1048576 < s.size
          · go_wp2
            go_ret
            exact ⟨false, rfl, rfl, fun h => by cases h⟩
          by_cases ty : 1048576 < y + s.size
          · go_wp2
            go_ret
            exact ⟨false, rfl, rfl, fun h => by cases h⟩
          go_wp2
          go_round
          case rel => exact ⟨j + 1, y + s.size, by omega, by omega, by go_num, by go_num⟩
          case measure => simp [intOf]; omega
        · go_wp2
          go_round
          case rel => exact ⟨k + 1, y, by omega, hy, by go_num, rfl, Lib.hid (HQ'.out (Nat.le_of_not_lt tc))⟩
          case measure => simp [intOf]; omega
    · obtain rfl : k = n0 := by omega
      by_cases t1 : 1048576 < n1
      · go_wp2
        go_ret
        exact ⟨false, rfl, rfl, fun h => by cases h⟩
      by_cases s1 : 1048576 < x + n1
      · go_wp2
        go_ret
        exact ⟨false, rfl, rfl, fun h => by cases h⟩
      go_wp2
      go_loop [9, 12] (fun t i => ∃ k x : Nat, k ≤ n1 ∧ x ≤ 1048576 ∧ i = .int .i64 k ∧ t = .int .i64 x ∧ Hid (∀ (q : Nat) (z : ZE), q < k → zs1[q]? = some z → z.cl ≤ 1048576)) (fun _ i => n1 - (intOf i).toNat)
      case atStart => exact ⟨0, x + n1, Nat.zero_le _, by omega, rfl, by go_num, Lib.hid fun q z h => absurd h (Nat.not_lt_zero _)⟩
      case round =>
        obtain ⟨k, x, hk, hx, rfl, rfl, HQ1⟩ := hrel
        by_cases hlt : k < n1
        · obtain ⟨z, hz⟩ : ∃ z, zs1[k]? = some z := ⟨zs1[k]'(by rw [H1.out.1]; exact hlt), by simp⟩
          obtain ⟨b, off, ha, hb, _, _, _, x3⟩ := IsZs.at (n := n1) (c := c1) H1.out.2.2.2.2.2 hz
          subst ha
          obtain ⟨q1, q2, q3, q4, q5, q6⟩ := (H1.out.2.2.2.2.1 z (List.mem_of_getElem? hz)).2.2.2
          have c63 : z.cl ≤ 9223372036854775807 := by unfold maxLen at q3; omega
          have HSS := Lib.hid q6
          have HSL := Lib.hid q1
          have HSZ := Lib.hid q5
          have HQ' := Lib.hid (fun (hc : z.cl ≤ 1048576) => show ∀ (q : Nat) (y : ZE), q < k + 1 → zs1[q]? = some y → y.cl ≤ 1048576 from fun q y hq hy => by
            rcases Nat.lt_or_ge q k with h | h
            · exact HQ1.out q y h hy
            · obtain rfl : q = k := by omega
              rw [hz] at hy
              obtain rfl := Option.some.inj hy
              exact hc)
          clear q1 q2 q3 q4 q5 q6 hz
          obtain ⟨_, _, _, ca, cl, cc, ss⟩ := z
          simp only at x3 c63
          by_cases tc : 1048576 < cl
          · go_wp2
            go_ret
            exact ⟨false, rfl, rfl, fun h => by cases h⟩
          by_cases tx : 1048576 < x + cl
          · go_wp2
            go_ret
            exact ⟨false, rfl, rfl, fun h => by cases h⟩
          go_wp2
          go_loop [9, 13] (fun t i => ∃ j y : Nat, j ≤ cl ∧ y ≤ 1048576 ∧ i = .int .i64 j ∧ t = .int .i64 y) (fun _ i => cl - (intOf i).toNat)
          case atStart => exact ⟨0, x + cl, Nat.zero_le _, by omega, rfl, by go_num⟩
          case round =>
            obtain ⟨j, y, hj, hy, rfl, rfl⟩ := hrel
            by_cases hjt : j < cl
            · have hsl : ss.length = cl := HSL.out
              obtain ⟨b2, off2, ha2, hb2, hc2⟩ := Rd.pos (show Rd w w.heap.size ca (ss.map Value.string) from HSS.out) (by simp [hsl]; omega)
              subst ha2
              obtain ⟨s, hs⟩ : ∃ s, ss[j]? = some s := ⟨ss[j]'(by rw [hsl]; exact hjt), by simp⟩
              have hcell := hc2 j (.string s) (by simp [hs])
              have h63 : s.size ≤ 9223372036854775807 := HSZ.out s (List.mem_of_getElem? hs)
              clear hc2 hs hsl
              by_cases ts : 1048576 < s.size
              · go_wp2
                go_ret
                exact ⟨false, rfl, rfl, fun h => by cases h⟩
              by_cases ty : 1048576 < y + s.size
              · go_wp2
                go_ret
                exact ⟨false, rfl, rfl, fun h => by cases h⟩
              go_wp2
              go_round
              case rel => exact ⟨j + 1, y + s.size, by omega, by omega, by go_num, by go_num⟩
              case measure => simp [intOf]; omega
            · go_wp2
              go_round
              case rel => exact ⟨k + 1, y, by omega, hy, by go_num, rfl, Lib.hid (HQ'.out (Nat.le_of_not_lt tc))⟩
              case measure => simp [intOf]; omega
        · obtain rfl : k = n1 := by omega
          go_wp2
          go_ret
          refine ⟨true, rfl, rfl, fun _ => ?_⟩
          simp only [List.mem_cons, List.not_mem_nil, or_false, forall_eq_or_imp, forall_eq]
          exact ⟨⟨by omega, fun z hz => by obtain ⟨q, hq⟩ := List.getElem?_of_mem hz; exact HQ0.out q z (by have := (List.getElem?_eq_some_iff.1 hq).1; have := H0.out.1; omega) hq⟩, by omega, fun z hz => by obtain ⟨q, hq⟩ := List.getElem?_of_mem hz; exact HQ1.out q z (by have := (List.getElem?_eq_some_iff.1 hq).1; have := H1.out.1; omega) hq⟩


set_option maxRecDepth 100000 in
set_option maxHeartbeats 3200000 in
theorem guard25 (w : World) (a0 : Option Addr) (n0 c0 : Nat) (zs0 : List ZE) (a1 : Option Addr) (n1 c1 : Nat) (zs1 : List ZE) (a2 : Option Addr) (n2 c2 : Nat) (zs2 : List ZE) (x0 : Int) (x1 : Int) (h0 : IsZs w a0 n0 c0 zs0) (h1 : IsZs w a1 n1 c1 zs1) (h2 : IsZs w a2 n2 c2 zs2) :
    Calls Try.prog 25 #[.slice a0 n0 c0, .slice a1 n1 c1, .slice a2 n2 c2, .int .i64 x0, .int .i64 x1] w (GuardZ w [(n0, zs0), (n1, zs1), (n2, zs2)]) := by
  have m0 : n0 ≤ 9223372036854775807 := by have := h0.2.1; have := h0.2.2.1; unfold maxLen at this; omega
  have H0 := Lib.hid h0
  clear h0
  have m1 : n1 ≤ 9223372036854775807 := by have := h1.2.1; have := h1.2.2.1; unfold maxLen at this; omega
  have H1 := Lib.hid h1
  clear h1
  have m2 : n2 ≤ 9223372036854775807 := by have := h2.2.1; have := h2.2.2.1; unfold maxLen at this; omega
  have H2 := Lib.hid h2
  clear h2
  by_cases t0 : 1048576 < n0
  · go_enter Try.func25, Try.ntmps25
    go_wp2
    go_ret
    exact ⟨false, rfl, rfl, fun h => by cases h⟩
  go_enter Try.func25, Try.ntmps25
  go_wp2
  go_loop [11, 12] (fun t i => ∃ k x : Nat, k ≤ n0 ∧ x ≤ 1048576 ∧ i = .int .i64 k ∧ t = .int .i64 x ∧ Hid (∀ (q : Nat) (z : ZE), q < k → zs0[q]? = some z → z.cl ≤ 1048576)) (fun _ i => n0 - (intOf i).toNat)
  case atStart => exact ⟨0, n0, Nat.zero_le _, by omega, rfl, by go_num, Lib.hid fun q z h => absurd h (Nat.not_lt_zero _)⟩
  case round =>
    obtain ⟨k, x, hk, hx, rfl, rfl, HQ0⟩ := hrel
    by_cases hlt : k < n0
    · obtain ⟨z, hz⟩ : ∃ z, zs0[k]? = some z := ⟨zs0[k]'(by rw [H0.out.1]; exact hlt), by simp⟩
      obtain ⟨b, off, ha, hb, _, _, _, x3⟩ := IsZs.at (n := n0) (c := c0) H0.out.2.2.2.2.2 hz
      subst ha
      obtain ⟨q1, q2, q3, q4, q5, q6⟩ := (H0.out.2.2.2.2.1 z (List.mem_of_getElem? hz)).2.2.2
      have c63 : z.cl ≤ 9223372036854775807 := by unfold maxLen at q3; omega
      have HSS := Lib.hid q6
      have HSL := Lib.hid q1
      have HSZ := Lib.hid q5
      have HQ' := Lib.hid (fun (hc : z.cl ≤ 1048576) => show ∀ (q : Nat) (y : ZE), q < k + 1 → zs0[q]? = some y → y.cl ≤ 1048576 from fun q y hq hy => by
        rcases Nat.lt_or_ge q k with h | h
        · exact HQ0.out q y h hy
        · obtain rfl : q = k := by omega
          rw [hz] at hy
          obtain rfl := Option.some.inj hy
          exact hc)
      clear q1 q2 q3 q4 q5 q6 hz
      obtain ⟨_, _, _, ca, cl, cc, ss⟩ := z
      simp only at x3 c63
      by_cases tc : 1048576 < cl
      · go_wp2
        go_ret
        exact ⟨false, rfl, rfl, fun h => by cases h⟩
      by_cases tx : 1048576 < x + cl
      · go_wp2
        go_ret
        exact ⟨false, rfl, rfl, fun h => by cases h⟩
      go_wp2
      go_loop [11, 13] (fun t i => ∃ j y : Nat, j ≤ cl ∧ y ≤ 1048576 ∧ i = .int .i64 j ∧ t = .int .i64 y) (fun _ i => cl - (intOf i).toNat)
      case atStart => exact ⟨0, x + cl, Nat.zero_le _, by omega, rfl, by go_num⟩
      case round =>
        obtain ⟨j, y, hj, hy, rfl, rfl⟩ := hrel
        by_cases hjt : j < cl
        · have hsl : ss.length = cl := HSL.out
          obtain ⟨b2, off2, ha2, hb2, hc2⟩ := Rd.pos (show Rd w w.heap.size ca (ss.map Value.string) from HSS.out) (by simp [hsl]; omega)
          subst ha2
          obtain ⟨s, hs⟩ : ∃ s, ss[j]? = some s := ⟨ss[j]'(by rw [hsl]; exact hjt), by simp⟩
          have hcell := hc2 j (.string s) (by simp [hs])
          have h63 : s.size ≤ 9223372036854775807 := HSZ.out s (List.mem_of_getElem? hs)
          clear hc2 hs hsl
          by_cases ts : 1048576 < s.size
          · go_wp2
            go_ret
            exact ⟨false, rfl, rfl, fun h => by cases h⟩
          by_cases ty : 1048576 < y + s.size
          · go_wp2
            go_ret
            exact ⟨false, rfl, rfl, fun h => by cases h⟩
          go_wp2
          go_round
          case rel => exact ⟨j + 1, y + s.size, by omega, by omega, by go_num, by go_num⟩
          case measure => simp [intOf]; omega
        · go_wp2
          go_round
          case rel => exact ⟨k + 1, y, by omega, hy, by go_num, rfl, Lib.hid (HQ'.out (Nat.le_of_not_lt tc))⟩
          case measure => simp [intOf]; omega
    · obtain rfl : k = n0 := by omega
      by_cases t1 : 1048576 < n1
      · go_wp2
        go_ret
        exact ⟨false, rfl, rfl, fun h => by cases h⟩
      by_cases s1 : 1048576 < x + n1
      · go_wp2
        go_ret
        exact ⟨false, rfl, rfl, fun h => by cases h⟩
      go_wp2
      go_loop [11, 14] (fun t i => ∃ k x : Nat, k ≤ n1 ∧ x ≤ 1048576 ∧ i = .int .i64 k ∧ t = .int .i64 x ∧ Hid (∀ (q : Nat) (z : ZE), q < k → zs1[q]? = some z → z.cl ≤ 1048576)) (fun _ i => n1 - (intOf i).toNat)
      case atStart => exact ⟨0, x + n1, Nat.zero_le _, by omega, rfl, by go_num, Lib.hid fun q z h => absurd h (Nat.not_lt_zero _)⟩
      case round =>
        obtain ⟨k, x, hk, hx, rfl, rfl, HQ1⟩ := hrel
        by_cases hlt : k < n1
        · obtain ⟨z, hz⟩ : ∃ z, zs1[k]? = some z := ⟨zs1[k]'(by rw [H1.out.1]; exact hlt), by simp⟩
          obtain ⟨b, off, ha, hb, _, _, _, x3⟩ := IsZs.at (n := n1) (c := c1) H1.out.2.2.2.2.2 hz
          subst ha
          obtain ⟨q1, q2, q3, q4, q5, q6⟩ := (H1.out.2.2.2.2.1 z (List.mem_of_getElem? hz)).2.2.2
          have c63 : z.cl ≤ 9223372036854775807 := by unfold maxLen at q3; omega
          have HSS := Lib.hid q6
          have HSL := Lib.hid q1
          have HSZ := Lib.hid q5
          have HQ' := Lib.hid (fun (hc : z.cl ≤ 1048576) => show ∀ (q : Nat) (y : ZE), q < k + 1 → zs1[q]? = some y → y.cl ≤ 1048576 from fun q y hq hy => by
            rcases Nat.lt_or_ge q k with h | h
            · exact HQ1.out q y h hy
            · obtain rfl : q = k := by omega
              rw [hz] at hy
              obtain rfl := Option.some.inj hy
              exact hc)
          clear q1 q2 q3 q4 q5 q6 hz
          obtain ⟨_, _, _, ca, cl, cc, ss⟩ := z
          simp only at x3 c63
          by_cases tc : 1048576 < cl
          · go_wp2
            go_ret
            exact ⟨false, rfl, rfl, fun h => by cases h⟩
          by_cases tx : 1048576 < x + cl
          · go_wp2
            go_ret
            exact ⟨false, rfl, rfl, fun h => by cases h⟩
          go_wp2
          go_loop [11, 15] (fun t i => ∃ j y : Nat, j ≤ cl ∧ y ≤ 1048576 ∧ i = .int .i64 j ∧ t = .int .i64 y) (fun _ i => cl - (intOf i).toNat)
          case atStart => exact ⟨0, x + cl, Nat.zero_le _, by omega, rfl, by go_num⟩
          case round =>
            obtain ⟨j, y, hj, hy, rfl, rfl⟩ := hrel
            by_cases hjt : j < cl
            · have hsl : ss.length = cl := HSL.out
              obtain ⟨b2, off2, ha2, hb2, hc2⟩ := Rd.pos (show Rd w w.heap.size ca (ss.map Value.string) from HSS.out) (by simp [hsl]; omega)
              subst ha2
              obtain ⟨s, hs⟩ : ∃ s, ss[j]? = some s := ⟨ss[j]'(by rw [hsl]; exact hjt), by simp⟩
              have hcell := hc2 j (.string s) (by simp [hs])
              have h63 : s.size ≤ 9223372036854775807 := HSZ.out s (List.mem_of_getElem? hs)
              clear hc2 hs hsl
              by_cases ts : 1048576 < s.size
              · go_wp2
                go_ret
                exact ⟨false, rfl, rfl, fun h => by cases h⟩
              by_cases ty : 1048576 < y + s.size
              · go_wp2
                go_ret
                exact ⟨false, rfl, rfl, fun h => by cases h⟩
              go_wp2
              go_round
              case rel => exact ⟨j + 1, y + s.size, by omega, by omega, by go_num, by go_num⟩
              case measure => simp [intOf]; omega
            · go_wp2
              go_round
              case rel => exact ⟨k + 1, y, by omega, hy, by go_num, rfl, Lib.hid (HQ'.out (Nat.le_of_not_lt tc))⟩
              case measure => simp [intOf]; omega
        · obtain rfl : k = n1 := by omega
          by_cases t2 : 1048576 < n2
          · go_wp2
            go_ret
            exact ⟨false, rfl, rfl, fun h => by cases h⟩
          by_cases s2 : 1048576 < x + n2
          · go_wp2
            go_ret
            exact ⟨false, rfl, rfl, fun h => by cases h⟩
          go_wp2
          go_loop [11, 16] (fun t i => ∃ k x : Nat, k ≤ n2 ∧ x ≤ 1048576 ∧ i = .int .i64 k ∧ t = .int .i64 x ∧ Hid (∀ (q : Nat) (z : ZE), q < k → zs2[q]? = some z → z.cl ≤ 1048576)) (fun _ i => n2 - (intOf i).toNat)
          case atStart => exact ⟨0, x + n2, Nat.zero_le _, by omega, rfl, by go_num, Lib.hid fun q z h => absurd h (Nat.not_lt_zero _)⟩
          case round =>
            obtain ⟨k, x, hk, hx, rfl, rfl, HQ2⟩ := hrel
            by_cases hlt : k < n2
            · obtain ⟨z, hz⟩ : ∃ z, zs2[k]? = some z := ⟨zs2[k]'(by rw [H2.out.1]; exact hlt), by simp⟩
              obtain ⟨b, off, ha, hb, _, _, _, x3⟩ := IsZs.at (n := n2) (c := c2) H2.out.2.2.2.2.2 hz
              subst ha
              obtain ⟨q1, q2, q3, q4, q5, q6⟩ := (H2.out.2.2.2.2.1 z (List.mem_of_getElem? hz)).2.2.2
              have c63 : z.cl ≤ 9223372036854775807 := by unfold maxLen at q3; omega
              have HSS := Lib.hid q6
              have HSL := Lib.hid q1
              have HSZ := Lib.hid q5
              have HQ' := Lib.hid (fun (hc : z.cl ≤ 1048576) => show ∀ (q : Nat) (y : ZE), q < k + 1 → zs2[q]? = some y → y.cl ≤ 1048576 from fun q y hq hy => by
                rcases Nat.lt_or_ge q k with h | h
                · exact HQ2.out q y h hy
                · obtain rfl : q = k := by omega
                  rw [hz] at hy
                  obtain rfl := Option.some.inj hy
                  exact hc)
              clear q1 q2 q3 q4 q5 q6 hz
              obtain ⟨_, _, _, ca, cl, cc, ss⟩ := z
              simp only at x3 c63
              by_cases tc : 1048576 < cl
              · go_wp2
                go_ret
                exact ⟨false, rfl, rfl, fun h => by cases h⟩
              by_cases tx : 1048576 < x + cl
              · go_wp2
                go_ret
                exact ⟨false, rfl, rfl, fun h => by cases h⟩
              go_wp2
              go_loop [11, 17] (fun t i => ∃ j y : Nat, j ≤ cl ∧ y ≤ 1048576 ∧ i = .int .i64 j ∧ t = .int .i64 y) (fun _ i => cl - (intOf i).toNat)
              case atStart => exact ⟨0, x + cl, Nat.zero_le _, by omega, rfl, by go_num⟩
              case round =>
                obtain ⟨j, y, hj, hy, rfl, rfl⟩ := hrel
                by_cases hjt : j < cl
                · have hsl : ss.length = cl := HSL.out
                  obtain ⟨b2, off2, ha2, hb2, hc2⟩ := Rd.pos (show Rd w w.heap.size ca (ss.map Value.string) from HSS.out) (by simp [hsl]; omega)
                  subst ha2
                  obtain ⟨s, hs⟩ : ∃ s, ss[j]? = some s := ⟨ss[j]'(by rw [hsl]; exact hjt), by simp⟩
                  have hcell := hc2 j (.string s) (by simp [hs])
                  have h63 : s.size ≤ 9223372036854775807 := HSZ.out s (List.mem_of_getElem? hs)
                  clear hc2 hs hsl
                  by_cases ts : 1048576 < s.size
                  · go_wp2
                    go_ret
                    exact ⟨false, rfl, rfl, fun h => by cases h⟩
                  by_cases ty : 1048576 < y + s.size
                  · go_wp2
                    go_ret
                    exact ⟨false, rfl, rfl, fun h => by cases h⟩
                  go_wp2
                  go_round
                  case rel => exact ⟨j + 1, y + s.size, by omega, by omega, by go_num, by go_num⟩
                  case measure => simp [intOf]; omega
                · go_wp2
                  go_round
                  case rel => exact ⟨k + 1, y, by omega, hy, by go_num, rfl, Lib.hid (HQ'.out (Nat.le_of_not_lt tc))⟩
                  case measure => simp [intOf]; omega
            · obtain rfl : k = n2 := by omega
              go_wp2
              go_ret
              refine ⟨true, rfl, rfl, fun _ => ?_⟩
              simp only [List.mem_cons, List.not_mem_nil, or_false, forall_eq_or_imp, forall_eq]
              exact ⟨⟨by omega, fun z hz => by obtain ⟨q, hq⟩ := List.getElem?_of_mem hz; exact HQ0.out q z (by have := (List.getElem?_eq_some_iff.1 hq).1; have := H0.out.1; omega) hq⟩, ⟨by omega, fun z hz => by obtain ⟨q, hq⟩ := List.getElem?_of_mem hz; exact HQ1.out q z (by have := (List.getElem?_eq_some_iff.1 hq).1; have := H1.out.1; omega) hq⟩, by omega, fun z hz => by obtain ⟨q, hq⟩ := List.getElem?_of_mem hz; exact HQ2.out q z (by have := (List.getElem?_eq_some_iff.1 hq).1; have := H2.out.1; omega) hq⟩


end Go.Proofs.Ytofhjpmkpgbgiaa
