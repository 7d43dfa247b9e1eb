/- The checks on the inputs: costs, shapes, kinds. -/
import Derived.Test.YtlaghkppjdphnaaFmtQel
import Derived.Test.YtlaghkppjdphnaaFmtMem
namespace Go.Proofs.YtlaghkppjdphnaaFmt
open Go.RowKit
set_option linter.unusedVariables false

theorem open_q {H : Type} {enc : TypeId × Value → H} {W : World} {a : Option Addr} {len cap : Nat} {d : DataW H} {p : List MemPlace} (h : DataW.Trod enc Tryf.prog W 0 (fun _ => true) true 22 (.slice a len cap) d p) : ∃ zs, IsQs W a len cap zs :=
  open_qels Tryf.underlying22 Tryf.underlying85 (by kernel_rfl) (by kernel_rfl) Tryf.underlying3 Tryf.underlying3 Tryf.underlying3 Tryf.underlying3 h
theorem open_s {H : Type} {enc : TypeId × Value → H} {W : World} {a : Option Addr} {len cap : Nat} {d : DataW H} {p : List MemPlace} (h : DataW.Trod enc Tryf.prog W 0 (fun _ => true) true 58 (.slice a len cap) d p) : ∃ zs, IsQss W a len cap zs :=
  open_qss Tryf.underlying58 (by kernel_rfl) Tryf.underlying22 Tryf.underlying85 (by kernel_rfl) (by kernel_rfl) Tryf.underlying3 Tryf.underlying3 Tryf.underlying3 Tryf.underlying3 h

def QE.le (z : QE) : LE := ⟨z.kind, z.blanks, z.indent, some (List.replicate z.lines.toNat ⟨#[35, 32, 99]⟩)⟩
def OkQ (z : QE) : Prop := 0 ≤ z.kind ∧ z.kind ≤ 2 ∧ 0 ≤ z.blanks ∧ z.blanks ≤ 65536 ∧ 0 ≤ z.indent ∧ z.indent ≤ 65536 ∧ 0 ≤ z.lines ∧ z.lines ≤ 16384 ∧ (z.kind = 2 → 1 ≤ z.lines) ∧ (z.kind = 0 → z.lines ≤ 1)
/-- Some answer; 'true' only where p. -/
def IfB (w : World) (p : Prop) (e : Ending) (w' : World) : Prop := ∃ r : Bool, e = .returned (.bool r) ∧ Below w.heap.size w w' ∧ (r = true → p)
def CostB (w : World) (p : Prop) (e : Ending) (w' : World) : Prop := ∃ m : Nat, e = .returned (.int .i64 m) ∧ w = w' ∧ m ≤ 16385 ∧ (m ≤ 16384 → p)

theorem kind33 (z : Int) (h : 0 ≤ z ∧ z ≤ 2) (w : World) : Calls Tryf.prog 33 #[.int .i64 z] w fun e w' => e = .returned (.int .i64 z) ∧ w = w' := by
  have h3 : z = 0 ∨ z = 1 ∨ z = 2 := by omega
  rcases h3 with rfl | rfl | rfl
  all_goals
    go_enter Tryf.func33, Tryf.ntmps33
    go_wp2
    go_ret
    exact ⟨rfl, rfl⟩

set_option maxRecDepth 100000 in
set_option maxHeartbeats 3200000 in
theorem elem32 (z : QE) (w : World) : Calls Tryf.prog 32 #[.agg #[.int .i64 z.kind, .int .i64 z.blanks, .int .i64 z.indent, .int .i64 z.lines]] w (IfB w (OkQ z)) := by
  obtain ⟨kd, bl, ind, li⟩ := z
  unfold OkQ
  simp only
  have HB := Lib.hid (fun o => (Below.refl w.heap.size w).alloc (Nat.le_refl _) o)
  by_cases c0 : kd < 0
  · skip
    go_enter Tryf.func32, Tryf.ntmps32
    go_wp2
    go_ret
    exact ⟨false, rfl, HB.out _, fun h => by cases h⟩
  by_cases c1 : 2 < kd
  · skip
    go_enter Tryf.func32, Tryf.ntmps32
    go_wp2
    go_ret
    exact ⟨false, rfl, HB.out _, fun h => by cases h⟩
  by_cases c2 : bl < 0
  · skip
    go_enter Tryf.func32, Tryf.ntmps32
    go_wp2
    go_ret
    exact ⟨false, rfl, HB.out _, fun h => by cases h⟩
  by_cases c3 : 65536 < bl
  · skip
    go_enter Tryf.func32, Tryf.ntmps32
    go_wp2
    go_ret
    exact ⟨false, rfl, HB.out _, fun h => by cases h⟩
  by_cases c4 : ind < 0
  · skip
    go_enter Tryf.func32, Tryf.ntmps32
    go_wp2
    go_ret
    exact ⟨false, rfl, HB.out _, fun h => by cases h⟩
  by_cases c5 : 65536 < ind
  · skip
    go_enter Tryf.func32, Tryf.ntmps32
    go_wp2
    go_ret
    exact ⟨false, rfl, HB.out _, fun h => by cases h⟩
  by_cases c6 : li < 0
  · skip
    go_enter Tryf.func32, Tryf.ntmps32
    go_wp2
    go_ret
    exact ⟨false, rfl, HB.out _, fun h => by cases h⟩
  by_cases c7 : 16384 < li
  · skip
    go_enter Tryf.func32, Tryf.ntmps32
    go_wp2
    go_ret
    exact ⟨false, rfl, HB.out _, fun h => by cases h⟩
  have h5 : kd = 0 ∨ kd = 1 ∨ kd = 2 := by omega
  clear c0 c1
  rcases h5 with rfl | rfl | rfl
  · by_cases d : 1 < li
    · skip
      go_enter Tryf.func32, Tryf.ntmps32
      go_wp2
      go_ret
      exact ⟨false, rfl, HB.out _, fun h => by cases h⟩
    · skip
      go_enter Tryf.func32, Tryf.ntmps32
      go_wp2
      go_ret
      exact ⟨true, rfl, HB.out _, fun _ => trivial⟩
  · skip
    go_enter Tryf.func32, Tryf.ntmps32
    go_wp2
    go_ret
    exact ⟨true, rfl, HB.out _, fun _ => trivial⟩
  · by_cases d : li < 1
    · skip
      go_enter Tryf.func32, Tryf.ntmps32
      go_wp2
      go_ret
      exact ⟨false, rfl, HB.out _, fun h => by cases h⟩
    · skip
      go_enter Tryf.func32, Tryf.ntmps32
      go_wp2
      go_ret
      exact ⟨true, rfl, HB.out _, fun _ => trivial⟩

set_option maxRecDepth 100000 in
theorem all11 (w : World) (a : Option Addr) (n c : Nat) (zs : List QE) (h : IsQs w a n c zs) : Calls Tryf.prog 11 #[.slice a n c] w (IfB w (∀ z ∈ zs, OkQ z)) := by
  have m0 : n ≤ 9223372036854775807 := by have := h.2.1; have := h.2.2.1; unfold maxLen at this; omega
  have H := Lib.hid h
  clear h
  go_enter Tryf.func11, Tryf.ntmps11
  go_wp2
  go_loopw [3] (fun i wr => ∃ k : Nat, k ≤ n ∧ i = .int .i64 k ∧ Hid (Below w.heap.size w wr) ∧ Hid (∀ (q : Nat) (z : QE), q < k → zs[q]? = some z → OkQ z)) (fun i _ => n - (intOf i).toNat)
  case atStart => exact ⟨0, Nat.zero_le _, rfl, Lib.hid (Below.refl _ _), Lib.hid fun q z h => absurd h (Nat.not_lt_zero _)⟩
  case round =>
    obtain ⟨k, hk, rfl, hbel, HQ⟩ := hrel
    by_cases hlt : k < n
    · obtain ⟨z, hz⟩ : ∃ z, zs[k]? = some z := ⟨zs[k]'(by rw [H.out.1]; exact hlt), by simp⟩
      obtain ⟨b, off, ha, hb, x0, x1, x2, x3⟩ := IsQs.at (H.out.2.2.2.2.below hbel.out) hz
      subst ha
      have hbw : b < wr.heap.size := Nat.lt_of_lt_of_le hb hbel.out.size
      have K := Lib.hid (elem32 z wr)
      have HZ := Lib.hid hz
      clear hz
      go_wp2_with fail
      refine K.out.mono ?_
      rintro e w2 ⟨r, rfl, hb2, hr⟩
      have HB2 := Lib.hid (hbel.out.trans (hb2.mono hbel.out.size))
      have HR := Lib.hid hr
      clear hb2 hr K
      cases r
      · go_wp2_with fail
        go_ret
        exact ⟨false, rfl, HB2.out, fun h => by cases h⟩
      · go_wp2_with fail
        go_roundw
        case rel =>
          refine ⟨k + 1, by omega, by go_num, HB2, Lib.hid fun q y hq hy => ?_⟩
          rcases Nat.lt_or_ge q k with h | h
          · exact HQ.out q y h hy
          · obtain rfl : q = k := by omega
            rw [HZ.out] at hy
            obtain rfl := Option.some.inj hy
            exact HR.out (by simp)
        case measure => simp [intOf]; omega
    · obtain rfl : k = n := by omega
      go_wp2_with fail
      go_ret
      exact ⟨true, rfl, hbel.out, fun _ z hz => by obtain ⟨q, hq⟩ := List.getElem?_of_mem hz; exact HQ.out q z (by have := (List.getElem?_eq_some_iff.1 hq).1; have := H.out.1; omega) hq⟩

set_option maxRecDepth 100000 in
theorem cost10 (w : World) (a : Option Addr) (n c : Nat) (zs : List QE) (h : IsQs w a n c zs) : Calls Tryf.prog 10 #[.slice a n c] w (CostB w (n ≤ 16384)) := by
  have m0 : n ≤ 9223372036854775807 := by have := h.2.1; have := h.2.2.1; unfold maxLen at this; omega
  have H := Lib.hid h
  clear h
  by_cases hn : 16384 < n
  · go_enter Tryf.func10, Tryf.ntmps10
    go_wp2
    go_ret
    exact ⟨16385, rfl, rfl, Nat.le_refl _, fun h => by omega⟩
  go_enter Tryf.func10, Tryf.ntmps10
  go_wp2
  go_loop [3, 4] (fun t i => ∃ k x : Nat, k ≤ n ∧ x ≤ 16384 ∧ i = .int .i64 k ∧ t = .int .i64 x) (fun _ i => n - (intOf i).toNat)
  case atStart => exact ⟨0, n, Nat.zero_le _, by omega, rfl, rfl⟩
  case round =>
    obtain ⟨k, x, hk, hx, rfl, rfl⟩ := hrel
    by_cases hlt : k < n
    · obtain ⟨z, hz⟩ : ∃ z, zs[k]? = some z := ⟨zs[k]'(by rw [H.out.1]; exact hlt), by simp⟩
      obtain ⟨b, off, ha, hb, _, _, _, x3⟩ := IsQs.at H.out.2.2.2.2 hz
      subst ha
      obtain ⟨_, _, _, li⟩ := z
      simp only at x3
      by_cases h1 : 16384 < li
      · go_wp2
        go_ret
        exact ⟨16385, rfl, rfl, Nat.le_refl _, fun h => by omega⟩
      by_cases h2 : 0 < li
      · obtain ⟨l', rfl⟩ : ∃ l' : Nat, li = l' := ⟨li.toNat, by omega⟩
        by_cases h3 : 16384 < x + l'
        · go_wp2
          go_ret
          exact ⟨16385, rfl, rfl, Nat.le_refl _, fun h => by omega⟩
        go_wp2
        go_round
        case rel => exact ⟨k + 1, x + l', by omega, by omega, by go_num, by go_num⟩
        case measure => simp [intOf]; omega
      · go_wp2
        go_round
        case rel => exact ⟨k + 1, x, by omega, by omega, by go_num, by go_num⟩
        case measure => simp [intOf]; omega
    · obtain rfl : k = n := by omega
      go_wp2
      go_ret
      exact ⟨x, rfl, rfl, by omega, fun _ => by omega⟩

theorem has14 (w : World) (a : Option Addr) (n c : Nat) (zs : List QE) (h : IsQs w a n c zs) : Calls Tryf.prog 14 #[.slice a n c] w fun e w' => e = .returned (.bool (zs.any fun z => z.kind != 1)) ∧ w = w' := by
  have m0 : n ≤ 9223372036854775807 := by have := h.2.1; have := h.2.2.1; unfold maxLen at this; omega
  have H := Lib.hid h
  clear h
  obtain ⟨r, hr⟩ : ∃ r, r = zs.any fun z => z.kind != 1 := ⟨_, rfl⟩
  rw [← hr]
  have HR := Lib.hid hr
  clear hr
  go_enter Tryf.func14, Tryf.ntmps14
  go_wp2
  go_loop [3] (fun i => ∃ k : Nat, k ≤ n ∧ i = .int .i64 k ∧ Hid (∀ (q : Nat) (z : QE), q < k → zs[q]? = some z → z.kind = 1)) (fun i => n - (intOf i).toNat)
  case atStart => exact ⟨0, Nat.zero_le _, rfl, Lib.hid fun q z h => absurd h (Nat.not_lt_zero _)⟩
  case round =>
    obtain ⟨k, hk, rfl, HQ⟩ := hrel
    by_cases hlt : k < n
    · obtain ⟨z, hz⟩ : ∃ z, zs[k]? = some z := ⟨zs[k]'(by rw [H.out.1]; exact hlt), by simp⟩
      obtain ⟨b, off, ha, hb, x0, _, _, _⟩ := IsQs.at H.out.2.2.2.2 hz
      subst ha
      have HZ := Lib.hid hz
      clear hz
      by_cases hk1 : z.kind = 1
      · rw [hk1] at x0
        have HK := Lib.hid hk1
        clear hk1
        go_wp2
        go_round
        case rel =>
          refine ⟨k + 1, by omega, by go_num, Lib.hid fun q y hq hy => ?_⟩
          rcases Nat.lt_or_ge q k with h | h
          · exact HQ.out q y h hy
          · obtain rfl : q = k := by omega
            rw [HZ.out] at hy
            obtain rfl := Option.some.inj hy
            exact HK.out
        case measure => simp [intOf]; omega
      · have hrt : r = true := by
          rw [HR.out]
          exact List.any_eq_true.2 ⟨z, List.mem_of_getElem? HZ.out, by simpa using hk1⟩
        subst hrt
        have hk2 : (z.kind == 1) = false := by simpa using hk1
        have hk3 : (z.kind != 1) = true := by simpa using hk1
        go_wp2
        go_ret
        exact ⟨rfl, rfl⟩
    · obtain rfl : k = n := by omega
      have hrf : r = false := by
        rw [HR.out]
        refine List.any_eq_false.2 fun z hz => ?_
        obtain ⟨q, hq⟩ := List.getElem?_of_mem hz
        have := HQ.out q z (by have := (List.getElem?_eq_some_iff.1 hq).1; have := H.out.1; omega) hq
        simp [this]
      subst hrf
      go_wp2
      go_ret
      exact ⟨rfl, rfl⟩

set_option maxRecDepth 100000 in
theorem nest22 (w : World) (a : Option Addr) (n c : Nat) (ss : List QS) (h : IsQss w a n c ss) : Calls Tryf.prog 22 #[.slice a n c] w (IfB w (∀ s ∈ ss, ∀ z ∈ s.zs, OkQ z)) := by
  have m0 : n ≤ 9223372036854775807 := by have := h.2.1; have := h.2.2.1; unfold maxLen at this; omega
  have H := Lib.hid h
  clear h
  go_enter Tryf.func22, Tryf.ntmps22
  go_wp2
  go_loopw [3] (fun i wr => ∃ k : Nat, k ≤ n ∧ i = .int .i64 k ∧ Hid (Below w.heap.size w wr) ∧ Hid (∀ (q : Nat) (s : QS), q < k → ss[q]? = some s → ∀ z ∈ s.zs, OkQ z)) (fun i _ => n - (intOf i).toNat)
  case atStart => exact ⟨0, Nat.zero_le _, rfl, Lib.hid (Below.refl _ _), Lib.hid fun q z h => absurd h (Nat.not_lt_zero _)⟩
  case round =>
    obtain ⟨k, hk, rfl, hbel, HQ⟩ := hrel
    by_cases hlt : k < n
    · obtain ⟨z, hz⟩ : ∃ z, ss[k]? = some z := ⟨ss[k]'(by rw [H.out.1]; exact hlt), by simp⟩
      obtain ⟨b, off, ha, hb, x0⟩ := IsQss.at (H.out.2.2.2.2.2.below hbel.out) hz
      subst ha
      have hbw : b < wr.heap.size := Nat.lt_of_lt_of_le hb hbel.out.size
      have K := Lib.hid (all11 wr z.a z.l z.c z.zs ((H.out.2.2.2.2.1 z (List.mem_of_getElem? hz)).below hbel.out))
      have HZ := Lib.hid hz
      clear hz
      go_wp2_with fail
      refine K.out.mono ?_
      rintro e w2 ⟨r, rfl, hb2, hr⟩
      have HB2 := Lib.hid (hbel.out.trans (hb2.mono hbel.out.size))
      have HR := Lib.hid hr
      clear hb2 hr K
      cases r
      · go_wp2_with fail
        go_ret
        exact ⟨false, rfl, HB2.out, fun h => by cases h⟩
      · go_wp2_with fail
        go_roundw
        case rel =>
          refine ⟨k + 1, by omega, by go_num, HB2, Lib.hid fun q y hq hy => ?_⟩
          rcases Nat.lt_or_ge q k with h | h
          · exact HQ.out q y h hy
          · obtain rfl : q = k := by omega
            rw [HZ.out] at hy
            obtain rfl := Option.some.inj hy
            exact HR.out (by simp)
        case measure => simp [intOf]; omega
    · obtain rfl : k = n := by omega
      go_wp2_with fail
      go_ret
      exact ⟨true, rfl, hbel.out, fun _ z hz => by obtain ⟨q, hq⟩ := List.getElem?_of_mem hz; exact HQ.out q z (by have := (List.getElem?_eq_some_iff.1 hq).1; have := H.out.1; omega) hq⟩

set_option maxRecDepth 100000 in
theorem cost21 (w : World) (a : Option Addr) (n c : Nat) (ss : List QS) (h : IsQss w a n c ss) : Calls Tryf.prog 21 #[.slice a n c] w (CostB w (n ≤ 16384 ∧ ∀ s ∈ ss, s.l ≤ 16384)) := by
  have m0 : n ≤ 9223372036854775807 := by have := h.2.1; have := h.2.2.1; unfold maxLen at this; omega
  have H := Lib.hid h
  clear h
  by_cases hn : 16384 < n
  · go_enter Tryf.func21, Tryf.ntmps21
    go_wp2
    go_ret
    exact ⟨16385, rfl, rfl, Nat.le_refl _, fun h => by omega⟩
  go_enter Tryf.func21, Tryf.ntmps21
  go_wp2
  go_loop [3, 4] (fun t i => ∃ k x : Nat, k ≤ n ∧ x ≤ 16384 ∧ i = .int .i64 k ∧ t = .int .i64 x ∧ Hid (∀ (q : Nat) (s : QS), q < k → ss[q]? = some s → s.l ≤ 16384)) (fun _ i => n - (intOf i).toNat)
  case atStart => exact ⟨0, n, Nat.zero_le _, by omega, rfl, rfl, Lib.hid fun q z h => absurd h (Nat.not_lt_zero _)⟩
  case round =>
    obtain ⟨k, x, hk, hx, rfl, rfl, HQ⟩ := hrel
    by_cases hlt : k < n
    · obtain ⟨z, hz⟩ : ∃ z, ss[k]? = some z := ⟨ss[k]'(by rw [H.out.1]; exact hlt), by simp⟩
      obtain ⟨b, off, ha, hb, x0⟩ := IsQss.at H.out.2.2.2.2.2 hz
      subst ha
      have K := Lib.hid (cost10 w z.a z.l z.c z.zs (H.out.2.2.2.2.1 z (List.mem_of_getElem? hz)))
      have HZ := Lib.hid hz
      clear hz
      go_wp2_with fail
      refine K.out.mono ?_
      rintro e w2 ⟨m, rfl, rfl, hm, hr⟩
      have HR := Lib.hid hr
      clear hr K
      by_cases h3 : 16384 < x + m
      · go_wp2
        go_ret
        exact ⟨16385, rfl, rfl, Nat.le_refl _, fun h => by omega⟩
      go_wp2
      go_round
      case rel =>
        refine ⟨k + 1, x + m, by omega, by omega, by go_num, by go_num, Lib.hid fun q y hq hy => ?_⟩
        rcases Nat.lt_or_ge q k with h | h
        · exact HQ.out q y h hy
        · obtain rfl : q = k := by omega
          rw [HZ.out] at hy
          obtain rfl := Option.some.inj hy
          exact HR.out (by omega)
      case measure => simp [intOf]; omega
    · obtain rfl : k = n := by omega
      go_wp2
      go_ret
      exact ⟨x, rfl, rfl, by omega, fun _ => ⟨by omega, fun z hz => by obtain ⟨q, hq⟩ := List.getElem?_of_mem hz; exact HQ.out q z (by have := (List.getElem?_eq_some_iff.1 hq).1; have := H.out.1; omega) hq⟩⟩
end Go.Proofs.YtlaghkppjdphnaaFmt
