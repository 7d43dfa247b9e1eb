/- zzSize: some number that is not too large. -/
import Derived.Test.YtofhjpmkpgbgiaaMem
namespace Go.Proofs.Ytofhjpmkpgbgiaa
open Go.RowKit
set_option linter.unusedVariables false

/-- A slice of this seat's elements, opened. -/
theorem open_in {H : Type} {enc : TypeId × Value → H} {W : World} {a : Option Addr} {len cap : Nat} {d : DataW H} {p : List MemPlace} (h : DataW.Trod enc Try.prog W 0 (fun _ => true) true 22 (.slice a len cap) d p) : ∃ zs, IsZs W a len cap zs :=
  open_zels Try.underlying22 Try.underlying53 (by kernel_rfl) (by kernel_rfl) Try.underlying3 Try.underlying3 Try.underlying3 Try.underlying48 Try.underlying9 (by kernel_rfl) h

def Num (w : World) (e : Ending) (w' : World) : Prop := ∃ m : Nat, e = .returned (.int .i64 m) ∧ w = w' ∧ m ≤ 4194304

set_option maxRecDepth 100000 in
set_option maxHeartbeats 3200000 in
theorem size_any (w : World) (a : Option Addr) (n c : Nat) (zs : List ZE) (h : IsZs w a n c zs) : Calls Try.prog 10 #[.slice a n c] w (Num w) := by
  have m0 : n ≤ 9223372036854775807 := by have := h.2.1; have := h.2.2.1; unfold maxLen at this; omega
  have H := Lib.hid h
  clear h
  go_enter Try.func10, Try.ntmps10
  go_wp2
  go_loop [3, 4] (fun t i => ∃ k x : Nat, k ≤ n ∧ x ≤ 1048576 ∧ i = .int .i64 k ∧ t = .int .i64 x) (fun _ i => n - (intOf i).toNat)
  case atStart => exact ⟨0, 0, Nat.zero_le _, by omega, rfl, rfl⟩
  case round =>
    obtain ⟨k, x, hk, hx, rfl, rfl⟩ := hrel
    by_cases hlt : k < n
    · obtain ⟨z, hz⟩ : ∃ z, zs[k]? = some z := ⟨zs[k]'(by rw [H.out.1]; exact hlt), by simp⟩
      obtain ⟨b, off, ha, hb, _, _, _, x3⟩ := IsZs.at (n := n) (c := c) H.out.2.2.2.2.2 hz
      subst ha
      obtain ⟨q1, q2, q3, q4, q5, q6⟩ := (H.out.2.2.2.2.1 z (List.mem_of_getElem? hz)).2.2.2
      have c63 : z.cl ≤ 9223372036854775807 := by unfold maxLen at q3; omega
      have HSS := Lib.hid q6
      have HSL := Lib.hid q1
      have HSZ := Lib.hid q5
      clear q1 q2 q3 q4 q5 q6 hz
      obtain ⟨_, _, _, ca, cl, cc, ss⟩ := z
      simp only at x3 c63
      obtain ⟨x', hx'⟩ : ∃ x' : Nat, (x : Int) + 48 = x' := ⟨x + 48, by omega⟩
      have hx2 : x' ≤ 1048624 := by omega
      have HX' := Lib.hid hx'
      by_cases tx : 1048576 < x'
      · go_wp2
        go_ret
        exact ⟨x', rfl, rfl, by omega⟩
      go_wp2
      go_loop [3, 6] (fun t i => ∃ j y : Nat, j ≤ cl ∧ y ≤ 1048576 ∧ i = .int .i64 j ∧ t = .int .i64 y) (fun _ i => cl - (intOf i).toNat)
      case atStart => exact ⟨0, x', Nat.zero_le _, by omega, rfl, rfl⟩
      case round =>
        obtain ⟨j, y, hj, hy, rfl, rfl⟩ := hrel
        by_cases hjt : j < cl
        · have hsl : ss.length = cl := HSL.out
          obtain ⟨b2, off2, ha2, hb2, hc2⟩ := Rd.pos (show Rd w w.heap.size ca (ss.map Value.string) from HSS.out) (by simp [hsl]; omega)
          subst ha2
          obtain ⟨s, hs⟩ : ∃ s, ss[j]? = some s := ⟨ss[j]'(by rw [hsl]; exact hjt), by simp⟩
          have hcell := hc2 j (.string s) (by simp [hs])
          have h63 : s.size ≤ 9223372036854775807 := HSZ.out s (List.mem_of_getElem? hs)
          clear hc2 hs hsl
          by_cases ts : 1048576 < s.size
          · go_wp2
            go_ret
            exact ⟨1048577, rfl, rfl, by omega⟩
          obtain ⟨y', hy'⟩ : ∃ y' : Nat, (y : Int) + (16 + s.size) = y' := ⟨y + (16 + s.size), by omega⟩
          have hy2 : y' ≤ 2097168 := by omega
          by_cases ty : 1048576 < y'
          · go_wp2
            go_ret
            exact ⟨y', rfl, rfl, by omega⟩
          go_wp2
          go_round
          case rel => exact ⟨j + 1, y', by omega, by omega, by go_num, rfl⟩
          case measure => simp [intOf]; omega
        · go_wp2
          go_round
          case rel => exact ⟨k + 1, y, by omega, hy, by go_num, rfl⟩
          case measure => simp [intOf]; omega
    · obtain rfl : k = n := by omega
      go_wp2
      go_ret
      exact ⟨x, rfl, rfl, by omega⟩
end Go.Proofs.Ytofhjpmkpgbgiaa
