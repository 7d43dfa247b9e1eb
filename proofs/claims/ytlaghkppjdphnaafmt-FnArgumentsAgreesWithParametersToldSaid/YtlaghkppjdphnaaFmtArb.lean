/- The checks of the laws on Arguments. -/
import Derived.Test.YtlaghkppjdphnaaFmtL18
namespace Go.Proofs.YtlaghkppjdphnaaFmt
open Go.RowKit
set_option linter.unusedVariables false

set_option maxRecDepth 100000 in
set_option maxHeartbeats 1600000 in
theorem guard26 (w : World) (a0 : Option Addr) (n0 c0 : Nat) (a1 : Option Addr) (n1 c1 : Nat) (ss : List QS) (a2 : Option Addr) (n2 c2 : Nat) (ts : List QS) (a3 : Option Addr) (n3 c3 : Nat) (h0 : n0 ≤ 9223372036854775807) (h1 : IsQss w a1 n1 c1 ss) (h2 : IsQss w a2 n2 c2 ts) (h3 : n3 ≤ 9223372036854775807) : Calls Tryf.prog 26 #[.slice a0 n0 c0, .slice a1 n1 c1, .slice a2 n2 c2, .slice a3 n3 c3] w (SomeB w) := by
  have m1 : n1 ≤ 9223372036854775807 := by have := h1.2.1; have := h1.2.2.1; unfold maxLen at this; omega
  have m2 : n2 ≤ 9223372036854775807 := by have := h2.2.1; have := h2.2.2.1; unfold maxLen at this; omega
  have H := Lib.hid h1
  have H2 := Lib.hid h2
  clear h1 h2
  by_cases t0 : 1048576 < n0
  · go_enter Tryf.func26, Tryf.ntmps26
    go_wp2
    go_ret
    exact ⟨false, rfl, rfl⟩
  by_cases t1 : 1048576 < n1
  · go_enter Tryf.func26, Tryf.ntmps26
    go_wp2
    go_ret
    exact ⟨false, rfl, rfl⟩
  by_cases t2 : 1048576 < n0 + n1
  · go_enter Tryf.func26, Tryf.ntmps26
    go_wp2
    go_ret
    exact ⟨false, rfl, rfl⟩
  go_enter Tryf.func26, Tryf.ntmps26
  go_wp2
  go_loop [9, 10] (fun t i => ∃ k x : Nat, k ≤ n1 ∧ x ≤ 1048576 ∧ i = .int .i64 k ∧ t = .int .i64 x) (fun _ i => n1 - (intOf i).toNat)
  case atStart => exact ⟨0, n0 + n1, Nat.zero_le _, by omega, rfl, by go_num⟩
  case round =>
    obtain ⟨k, x, hk, hx, rfl, rfl⟩ := hrel
    by_cases hlt : k < n1
    · obtain ⟨s, hs⟩ : ∃ s, ss[k]? = some s := ⟨ss[k]'(by rw [H.out.1]; exact hlt), by simp⟩
      obtain ⟨b, off, ha, hb, x0⟩ := IsQss.at H.out.2.2.2.2.2 hs
      subst ha
      have hsl : s.l ≤ 9223372036854775807 := by have h9 := H.out.2.2.2.2.1 s (List.mem_of_getElem? hs); have := h9.2.1; have := h9.2.2.1; unfold maxLen at this; omega
      clear hs
      by_cases t3 : 1048576 < s.l
      · skip
        go_wp2
        go_ret
        exact ⟨false, rfl, rfl⟩
      by_cases t4 : 1048576 < x + s.l
      · skip
        go_wp2
        go_ret
        exact ⟨false, rfl, rfl⟩
      go_wp2
      go_round
      case rel => exact ⟨k + 1, x + s.l, by omega, by omega, by go_num, by go_num⟩
      case measure => simp [intOf]; omega
    · obtain rfl : k = n1 := by omega
      by_cases t5 : 1048576 < n2
      · skip
        go_wp2
        go_ret
        exact ⟨false, rfl, rfl⟩
      by_cases t6 : 1048576 < x + n2
      · skip
        go_wp2
        go_ret
        exact ⟨false, rfl, rfl⟩
      go_wp2
      go_loop [9, 11] (fun t i => ∃ k x : Nat, k ≤ n2 ∧ x ≤ 1048576 ∧ i = .int .i64 k ∧ t = .int .i64 x) (fun _ i => n2 - (intOf i).toNat)
      case atStart => exact ⟨0, x + n2, Nat.zero_le _, by omega, rfl, by go_num⟩
      case round =>
        obtain ⟨k, x, hk, hx, rfl, rfl⟩ := hrel
        by_cases hlt : k < n2
        · obtain ⟨s, hs⟩ : ∃ s, ts[k]? = some s := ⟨ts[k]'(by rw [H2.out.1]; exact hlt), by simp⟩
          obtain ⟨b, off, ha, hb, x0⟩ := IsQss.at H2.out.2.2.2.2.2 hs
          subst ha
          have hsl : s.l ≤ 9223372036854775807 := by have h9 := H2.out.2.2.2.2.1 s (List.mem_of_getElem? hs); have := h9.2.1; have := h9.2.2.1; unfold maxLen at this; omega
          clear hs
          by_cases t3 : 1048576 < s.l
          · skip
            go_wp2
            go_ret
            exact ⟨false, rfl, rfl⟩
          by_cases t4 : 1048576 < x + s.l
          · skip
            go_wp2
            go_ret
            exact ⟨false, rfl, rfl⟩
          go_wp2
          go_round
          case rel => exact ⟨k + 1, x + s.l, by omega, by omega, by go_num, by go_num⟩
          case measure => simp [intOf]; omega
        · obtain rfl : k = n2 := by omega
          by_cases t7 : 1048576 < n3
          · skip
            go_wp2
            go_ret
            exact ⟨false, rfl, rfl⟩
          by_cases t8 : 1048576 < x + n3
          · skip
            go_wp2
            go_ret
            exact ⟨false, rfl, rfl⟩
          go_wp2
          go_ret
          exact ⟨true, rfl, rfl⟩
set_option maxRecDepth 100000 in
set_option maxHeartbeats 1600000 in
theorem guard31 (w : World) (a0 : Option Addr) (n0 c0 : Nat) (a1 : Option Addr) (n1 c1 : Nat) (ss : List QS) (a2 : Option Addr) (n2 c2 : Nat) (ts : List QS) (a3 : Option Addr) (n3 c3 : Nat) (h0 : n0 ≤ 9223372036854775807) (h1 : IsQss w a1 n1 c1 ss) (h2 : IsQss w a2 n2 c2 ts) (h3 : n3 ≤ 9223372036854775807) : Calls Tryf.prog 31 #[.slice a0 n0 c0, .slice a1 n1 c1, .slice a2 n2 c2, .slice a3 n3 c3] w (SomeB w) := by
  have m1 : n1 ≤ 9223372036854775807 := by have := h1.2.1; have := h1.2.2.1; unfold maxLen at this; omega
  have m2 : n2 ≤ 9223372036854775807 := by have := h2.2.1; have := h2.2.2.1; unfold maxLen at this; omega
  have H := Lib.hid h1
  have H2 := Lib.hid h2
  clear h1 h2
  by_cases t0 : 1048576 < n0
  · go_enter Tryf.func31, Tryf.ntmps31
    go_wp2
    go_ret
    exact ⟨false, rfl, rfl⟩
  by_cases t1 : 1048576 < n1
  · go_enter Tryf.func31, Tryf.ntmps31
    go_wp2
    go_ret
    exact ⟨false, rfl, rfl⟩
  by_cases t2 : 1048576 < n0 + n1
  · go_enter Tryf.func31, Tryf.ntmps31
    go_wp2
    go_ret
    exact ⟨false, rfl, rfl⟩
  go_enter Tryf.func31, Tryf.ntmps31
  go_wp2
  go_loop [9, 10] (fun t i => ∃ k x : Nat, k ≤ n1 ∧ x ≤ 1048576 ∧ i = .int .i64 k ∧ t = .int .i64 x) (fun _ i => n1 - (intOf i).toNat)
  case atStart => exact ⟨0, n0 + n1, Nat.zero_le _, by omega, rfl, by go_num⟩
  case round =>
    obtain ⟨k, x, hk, hx, rfl, rfl⟩ := hrel
    by_cases hlt : k < n1
    · obtain ⟨s, hs⟩ : ∃ s, ss[k]? = some s := ⟨ss[k]'(by rw [H.out.1]; exact hlt), by simp⟩
      obtain ⟨b, off, ha, hb, x0⟩ := IsQss.at H.out.2.2.2.2.2 hs
      subst ha
      have hsl : s.l ≤ 9223372036854775807 := by have h9 := H.out.2.2.2.2.1 s (List.mem_of_getElem? hs); have := h9.2.1; have := h9.2.2.1; unfold maxLen at this; omega
      clear hs
      by_cases t3 : 1048576 < s.l
      · skip
        go_wp2
        go_ret
        exact ⟨false, rfl, rfl⟩
      by_cases t4 : 1048576 < x + s.l
      · skip
        go_wp2
        go_ret
        exact ⟨false, rfl, rfl⟩
      go_wp2
      go_round
      case rel => exact ⟨k + 1, x + s.l, by omega, by omega, by go_num, by go_num⟩
      case measure => simp [intOf]; omega
    · obtain rfl : k = n1 := by omega
      by_cases t5 : 1048576 < n2
      · skip
        go_wp2
        go_ret
        exact ⟨false, rfl, rfl⟩
      by_cases t6 : 1048576 < x + n2
      · skip
        go_wp2
        go_ret
        exact ⟨false, rfl, rfl⟩
      go_wp2
      go_loop [9, 11] (fun t i => ∃ k x : Nat, k ≤ n2 ∧ x ≤ 1048576 ∧ i = .int .i64 k ∧ t = .int .i64 x) (fun _ i => n2 - (intOf i).toNat)
      case atStart => exact ⟨0, x + n2, Nat.zero_le _, by omega, rfl, by go_num⟩
      case round =>
        obtain ⟨k, x, hk, hx, rfl, rfl⟩ := hrel
        by_cases hlt : k < n2
        · obtain ⟨s, hs⟩ : ∃ s, ts[k]? = some s := ⟨ts[k]'(by rw [H2.out.1]; exact hlt), by simp⟩
          obtain ⟨b, off, ha, hb, x0⟩ := IsQss.at H2.out.2.2.2.2.2 hs
          subst ha
          have hsl : s.l ≤ 9223372036854775807 := by have h9 := H2.out.2.2.2.2.1 s (List.mem_of_getElem? hs); have := h9.2.1; have := h9.2.2.1; unfold maxLen at this; omega
          clear hs
          by_cases t3 : 1048576 < s.l
          · skip
            go_wp2
            go_ret
            exact ⟨false, rfl, rfl⟩
          by_cases t4 : 1048576 < x + s.l
          · skip
            go_wp2
            go_ret
            exact ⟨false, rfl, rfl⟩
          go_wp2
          go_round
          case rel => exact ⟨k + 1, x + s.l, by omega, by omega, by go_num, by go_num⟩
          case measure => simp [intOf]; omega
        · obtain rfl : k = n2 := by omega
          by_cases t7 : 1048576 < n3
          · skip
            go_wp2
            go_ret
            exact ⟨false, rfl, rfl⟩
          by_cases t8 : 1048576 < x + n3
          · skip
            go_wp2
            go_ret
            exact ⟨false, rfl, rfl⟩
          go_wp2
          go_ret
          exact ⟨true, rfl, rfl⟩
def CostN (w : World) (n : Nat) (p : Prop) (e : Ending) (w' : World) : Prop := ∃ m : Nat, e = .returned (.int .i64 m) ∧ w = w' ∧ m ≤ 16385 ∧ (m ≤ 16384 → n ≤ m ∧ p)
set_option maxRecDepth 100000 in
theorem cost21n (w : World) (a : Option Addr) (n c : Nat) (ss : List QS) (h : IsQss w a n c ss) : Calls Tryf.prog 21 #[.slice a n c] w (CostN w n (∀ s ∈ ss, s.l ≤ 16384)) := by
  have m0 : n ≤ 9223372036854775807 := by have := h.2.1; have := h.2.2.1; unfold maxLen at this; omega
  have H := Lib.hid h
  clear h
  by_cases hn : 16384 < n
  · go_enter Tryf.func21, Tryf.ntmps21
    go_wp2
    go_ret
    exact ⟨16385, rfl, rfl, Nat.le_refl _, fun h => by omega⟩
  go_enter Tryf.func21, Tryf.ntmps21
  go_wp2
  go_loop [3, 4] (fun t i => ∃ k x : Nat, k ≤ n ∧ n ≤ x ∧ x ≤ 16384 ∧ i = .int .i64 k ∧ t = .int .i64 x ∧ Hid (∀ (q : Nat) (s : QS), q < k → ss[q]? = some s → s.l ≤ 16384)) (fun _ i => n - (intOf i).toNat)
  case atStart => exact ⟨0, n, Nat.zero_le _, Nat.le_refl _, by omega, rfl, rfl, Lib.hid fun q z h => absurd h (Nat.not_lt_zero _)⟩
  case round =>
    obtain ⟨k, x, hk, hnx, hx, rfl, rfl, HQ⟩ := hrel
    by_cases hlt : k < n
    · obtain ⟨z, hz⟩ : ∃ z, ss[k]? = some z := ⟨ss[k]'(by rw [H.out.1]; exact hlt), by simp⟩
      obtain ⟨b, off, ha, hb, x0⟩ := IsQss.at H.out.2.2.2.2.2 hz
      subst ha
      have K := Lib.hid (cost10 w z.a z.l z.c z.zs (H.out.2.2.2.2.1 z (List.mem_of_getElem? hz)))
      have HZ := Lib.hid hz
      clear hz
      go_wp2_with fail
      refine K.out.mono ?_
      rintro e w2 ⟨m, rfl, rfl, hm, hr⟩
      have HR := Lib.hid hr
      clear hr K
      by_cases h3 : 16384 < x + m
      · go_wp2
        go_ret
        exact ⟨16385, rfl, rfl, Nat.le_refl _, fun h => by omega⟩
      go_wp2
      go_round
      case rel =>
        refine ⟨k + 1, x + m, by omega, by omega, by omega, by go_num, by go_num, Lib.hid fun q y hq hy => ?_⟩
        rcases Nat.lt_or_ge q k with h | h
        · exact HQ.out q y h hy
        · obtain rfl : q = k := by omega
          rw [HZ.out] at hy
          obtain rfl := Option.some.inj hy
          exact HR.out (by omega)
      case measure => simp [intOf]; omega
    · obtain rfl : k = n := by omega
      go_wp2
      go_ret
      exact ⟨x, rfl, rfl, by omega, fun _ => ⟨hnx, fun z hz => by obtain ⟨q, hq⟩ := List.getElem?_of_mem hz; exact HQ.out q z (by have := (List.getElem?_eq_some_iff.1 hq).1; have := H.out.1; omega) hq⟩⟩
def SmallB (w : World) (p : Prop) (e : Ending) (w' : World) : Prop := ∃ r : Bool, e = .returned (.bool r) ∧ w = w' ∧ (r = true → p)
set_option maxRecDepth 100000 in
theorem small27 (w : World) (a0 : Option Addr) (n0 c0 : Nat) (zs0 : List QE) (a1 : Option Addr) (n1 c1 : Nat) (ss : List QS) (a2 : Option Addr) (n2 c2 : Nat) (ts : List QS) (a3 : Option Addr) (n3 c3 : Nat) (zs3 : List QE) (h0 : IsQs w a0 n0 c0 zs0) (h1 : IsQss w a1 n1 c1 ss) (h2 : IsQss w a2 n2 c2 ts) (h3 : IsQs w a3 n3 c3 zs3) :
    Calls Tryf.prog 27 #[.slice a0 n0 c0, .slice a1 n1 c1, .slice a2 n2 c2, .slice a3 n3 c3] w (SmallB w (n0 ≤ 16384 ∧ n3 ≤ 16384 ∧ n1 + n2 ≤ 16384 ∧ (∀ s ∈ ss, s.l ≤ 16384) ∧ (∀ s ∈ ts, s.l ≤ 16384))) := by
  have C0 := Lib.hid (cost10 w a0 n0 c0 zs0 h0)
  have C3 := Lib.hid (cost10 w a3 n3 c3 zs3 h3)
  have C1 := Lib.hid (cost21n w a1 n1 c1 ss h1)
  have C2 := Lib.hid (cost21n w a2 n2 c2 ts h2)
  clear h0 h1 h2 h3
  unfold SmallB
  go_enter Tryf.func27, Tryf.ntmps27
  go_wp2_with fail
  refine C0.out.mono ?_
  rintro e w1 ⟨m0, rfl, rfl, hm0, hq0⟩
  go_wp2_with fail
  refine C3.out.mono ?_
  rintro e w1 ⟨m3, rfl, rfl, hm3, hq3⟩
  go_wp2_with fail
  refine C1.out.mono ?_
  rintro e w1 ⟨m1, rfl, rfl, hm1, hq1⟩
  go_wp2_with fail
  refine C2.out.mono ?_
  rintro e w1 ⟨m2, rfl, rfl, hm2, hq2⟩
  clear C0 C1 C2 C3
  have Q0 := Lib.hid hq0
  have Q1 := Lib.hid hq1
  have Q2 := Lib.hid hq2
  have Q3 := Lib.hid hq3
  clear hq0 hq1 hq2 hq3
  go_wp2_with fail
  go_ret
  refine ⟨_, rfl, rfl, fun h => ?_⟩
  have h9 : m0 + m3 + m1 + m2 ≤ 16384 := by have := of_decide_eq_true h; omega
  have q1 := Q1.out (by omega)
  have q2 := Q2.out (by omega)
  exact ⟨Q0.out (by omega), Q3.out (by omega), by omega, q1.2, q2.2⟩
set_option maxRecDepth 100000 in
theorem ok28 (w : World) (a0 : Option Addr) (n0 c0 : Nat) (zs0 : List QE) (a1 : Option Addr) (n1 c1 : Nat) (ss : List QS) (a2 : Option Addr) (n2 c2 : Nat) (ts : List QS) (a3 : Option Addr) (n3 c3 : Nat) (zs3 : List QE) (h0 : IsQs w a0 n0 c0 zs0) (h1 : IsQss w a1 n1 c1 ss) (h2 : IsQss w a2 n2 c2 ts) (h3 : IsQs w a3 n3 c3 zs3) :
    Calls Tryf.prog 28 #[.slice a0 n0 c0, .slice a1 n1 c1, .slice a2 n2 c2, .slice a3 n3 c3] w (IfB w ((∀ z ∈ zs0, OkQ z) ∧ (∀ z ∈ zs3, OkQ z) ∧ (∀ s ∈ ss, ∀ z ∈ s.zs, OkQ z) ∧ (∀ s ∈ ts, ∀ z ∈ s.zs, OkQ z))) := by
  have A0 := Lib.hid (all11 w a0 n0 c0 zs0 h0)
  have H1 := Lib.hid h1
  have H2 := Lib.hid h2
  have H3 := Lib.hid h3
  clear h0 h1 h2 h3
  unfold IfB at A0
  unfold IfB
  go_enter Tryf.func28, Tryf.ntmps28
  go_wp2_with fail
  refine A0.out.mono ?_
  rintro e w1 ⟨r, rfl, hb1, ho0⟩
  have B1 := Lib.hid hb1
  have O0 := Lib.hid ho0
  clear hb1 ho0 A0
  cases r
  · go_wp2_with fail
    go_ret
    exact ⟨false, rfl, B1.out, fun h => by cases h⟩
  have A3 := Lib.hid (all11 w1 a3 n3 c3 zs3 (H3.out.below B1.out))
  go_wp2_with fail
  refine A3.out.mono ?_
  rintro e w2 ⟨r, rfl, hb2, ho3⟩
  have B2 := Lib.hid (B1.out.trans (hb2.mono B1.out.size))
  have O3 := Lib.hid ho3
  clear hb2 ho3 A3
  cases r
  · go_wp2_with fail
    go_ret
    exact ⟨false, rfl, B2.out, fun h => by cases h⟩
  have A1 := Lib.hid (nest22 w2 a1 n1 c1 ss (H1.out.below B2.out))
  go_wp2_with fail
  refine A1.out.mono ?_
  rintro e w3 ⟨r, rfl, hb3, ho1⟩
  have B3 := Lib.hid (B2.out.trans (hb3.mono B2.out.size))
  have O1 := Lib.hid ho1
  clear hb3 ho1 A1
  cases r
  · go_wp2_with fail
    go_ret
    exact ⟨false, rfl, B3.out, fun h => by cases h⟩
  have A2 := Lib.hid (nest22 w3 a2 n2 c2 ts (H2.out.below B3.out))
  go_wp2_with fail
  refine A2.out.mono ?_
  rintro e w4 ⟨r, rfl, hb4, ho2⟩
  have B4 := Lib.hid (B3.out.trans (hb4.mono B3.out.size))
  have O2 := Lib.hid ho2
  clear hb4 ho2 A2
  go_wp2_with fail
  go_ret
  exact ⟨r, rfl, B4.out, fun h => ⟨O0.out trivial, O3.out trivial, O1.out trivial, O2.out h⟩⟩
end Go.Proofs.YtlaghkppjdphnaaFmt
