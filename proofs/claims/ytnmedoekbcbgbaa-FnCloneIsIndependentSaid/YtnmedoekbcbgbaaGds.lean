/- The size guards; sums of lengths. -/
import Derived.Test.YtnmedoekbcbgbaaArgs
namespace Go.Proofs.Ytnmedoekbcbgbaa
open Go.RowKit
set_option linter.unusedVariables false

def SomeB (w : World) (e : Ending) (w' : World) : Prop := ∃ b : Bool, e = .returned (.bool b) ∧ w = w'
def SomeI (w : World) (e : Ending) (w' : World) : Prop := ∃ m : Int, e = .returned (.int .i64 m) ∧ w = w'
theorem IsStrs.at {w : World} {a : Option Addr} {n c : Nat} {ss : List ByteArray} (h : IsStrs w a n c ss) {k : Nat} (hk : k < n) :
    ∃ s b off, a = some ⟨b, off, none⟩ ∧ b < w.heap.size ∧ s.size ≤ 9223372036854775807 ∧ w.cell? ⟨b, off + k, none⟩ = some (.string s) := by
  obtain ⟨h1, h2, h3, h4, h5, h6⟩ := h
  obtain ⟨b, off, ha, hb, hc⟩ := h6.pos (by simp; omega)
  have hs : ss[k]? = some (ss[k]'(by omega)) := by simp
  exact ⟨ss[k]'(by omega), b, off, ha, hb, h5 _ (List.getElem_mem _), hc k _ (by simp [hs])⟩

set_option maxRecDepth 100000 in
set_option maxHeartbeats 3200000 in
theorem guard5 (w : World) (a0 : Option Addr) (n0 c0 : Nat) (ss0 : List ByteArray) (a1 : Option Addr) (n1 c1 : Nat) (ss1 : List ByteArray) (h0 : IsStrs w a0 n0 c0 ss0) (h1 : IsStrs w a1 n1 c1 ss1) :
    Calls Try.prog 5 #[.slice a0 n0 c0, .slice a1 n1 c1] w (SomeB w) := by
  have m0 : n0 ≤ 9223372036854775807 := by have := h0.2.1; have := h0.2.2.1; unfold maxLen at this; omega
  have H0 := Lib.hid h0
  clear h0
  have m1 : n1 ≤ 9223372036854775807 := by have := h1.2.1; have := h1.2.2.1; unfold maxLen at this; omega
  have H1 := Lib.hid h1
  clear h1
  by_cases t0 : 1048576 < n0
  · go_enter Try.func5, Try.ntmps5
    go_wp2
    go_ret
    exact ⟨_, rfl, rfl⟩
  · go_enter Try.func5, Try.ntmps5
    go_wp2
    go_loop [5, 6] (fun z i => ∃ k m : Nat, k ≤ n0 ∧ m ≤ 1048576 ∧ i = .int .i64 k ∧ z = .int .i64 m) (fun _ i => n0 - (intOf i).toNat)
    case atStart => exact ⟨0, n0, Nat.zero_le _, by omega, rfl, by first | rfl | go_num⟩
    case round =>
      obtain ⟨k0, z0, hk0, hz0, rfl, rfl⟩ := hrel
      by_cases hlt0 : k0 < n0
      · obtain ⟨s, b, off, rfl, hb, hsz, hcell⟩ := H0.out.at hlt0
        by_cases h1 : 1048576 < s.size
        · go_wp2
          go_ret
          exact ⟨_, rfl, rfl⟩
        · by_cases h2 : 1048576 < z0 + s.size
          · go_wp2
            go_ret
            exact ⟨_, rfl, rfl⟩
          · go_wp2
            go_round
            case rel => exact ⟨k0 + 1, z0 + s.size, by omega, by omega, by go_num, by go_num⟩
            case measure => simp [intOf]; omega
      · by_cases t1 : 1048576 < n1
        · go_wp2
          go_ret
          exact ⟨_, rfl, rfl⟩
        · by_cases u1 : 1048576 < z0 + n1
          · go_wp2
            go_ret
            exact ⟨_, rfl, rfl⟩
          · go_wp2
            go_loop [5, 7] (fun z i => ∃ k m : Nat, k ≤ n1 ∧ m ≤ 1048576 ∧ i = .int .i64 k ∧ z = .int .i64 m) (fun _ i => n1 - (intOf i).toNat)
            case atStart => exact ⟨0, z0 + n1, Nat.zero_le _, by omega, rfl, by first | rfl | go_num⟩
            case round =>
              obtain ⟨k1, z1, hk1, hz1, rfl, rfl⟩ := hrel
              by_cases hlt1 : k1 < n1
              · obtain ⟨s, b, off, rfl, hb, hsz, hcell⟩ := H1.out.at hlt1
                by_cases h1 : 1048576 < s.size
                · go_wp2
                  go_ret
                  exact ⟨_, rfl, rfl⟩
                · by_cases h2 : 1048576 < z1 + s.size
                  · go_wp2
                    go_ret
                    exact ⟨_, rfl, rfl⟩
                  · go_wp2
                    go_round
                    case rel => exact ⟨k1 + 1, z1 + s.size, by omega, by omega, by go_num, by go_num⟩
                    case measure => simp [intOf]; omega
              · go_wp2
                go_ret
                exact ⟨_, rfl, rfl⟩

set_option maxRecDepth 100000 in
set_option maxHeartbeats 3200000 in
theorem guard13 (w : World) (a0 : Option Addr) (n0 c0 : Nat) (ss0 : List ByteArray) (a1 : Option Addr) (n1 c1 : Nat) (ss1 : List ByteArray) (a2 : Option Addr) (n2 c2 : Nat) (ss2 : List ByteArray) (h0 : IsStrs w a0 n0 c0 ss0) (h1 : IsStrs w a1 n1 c1 ss1) (h2 : IsStrs w a2 n2 c2 ss2) :
    Calls Try.prog 13 #[.slice a0 n0 c0, .slice a1 n1 c1, .slice a2 n2 c2] w (SomeB w) := by
  have m0 : n0 ≤ 9223372036854775807 := by have := h0.2.1; have := h0.2.2.1; unfold maxLen at this; omega
  have H0 := Lib.hid h0
  clear h0
  have m1 : n1 ≤ 9223372036854775807 := by have := h1.2.1; have := h1.2.2.1; unfold maxLen at this; omega
  have H1 := Lib.hid h1
  clear h1
  have m2 : n2 ≤ 9223372036854775807 := by have := h2.2.1; have := h2.2.2.1; unfold maxLen at this; omega
  have H2 := Lib.hid h2
  clear h2
  by_cases t0 : 1048576 < n0
  · go_enter Try.func13, Try.ntmps13
    go_wp2
    go_ret
    exact ⟨_, rfl, rfl⟩
  · go_enter Try.func13, Try.ntmps13
    go_wp2
    go_loop [7, 8] (fun z i => ∃ k m : Nat, k ≤ n0 ∧ m ≤ 1048576 ∧ i = .int .i64 k ∧ z = .int .i64 m) (fun _ i => n0 - (intOf i).toNat)
    case atStart => exact ⟨0, n0, Nat.zero_le _, by omega, rfl, by first | rfl | go_num⟩
    case round =>
      obtain ⟨k0, z0, hk0, hz0, rfl, rfl⟩ := hrel
      by_cases hlt0 : k0 < n0
      · obtain ⟨s, b, off, rfl, hb, hsz, hcell⟩ := H0.out.at hlt0
        by_cases h1 : 1048576 < s.size
        · go_wp2
          go_ret
          exact ⟨_, rfl, rfl⟩
        · by_cases h2 : 1048576 < z0 + s.size
          · go_wp2
            go_ret
            exact ⟨_, rfl, rfl⟩
          · go_wp2
            go_round
            case rel => exact ⟨k0 + 1, z0 + s.size, by omega, by omega, by go_num, by go_num⟩
            case measure => simp [intOf]; omega
      · by_cases t1 : 1048576 < n1
        · go_wp2
          go_ret
          exact ⟨_, rfl, rfl⟩
        · by_cases u1 : 1048576 < z0 + n1
          · go_wp2
            go_ret
            exact ⟨_, rfl, rfl⟩
          · go_wp2
            go_loop [7, 9] (fun z i => ∃ k m : Nat, k ≤ n1 ∧ m ≤ 1048576 ∧ i = .int .i64 k ∧ z = .int .i64 m) (fun _ i => n1 - (intOf i).toNat)
            case atStart => exact ⟨0, z0 + n1, Nat.zero_le _, by omega, rfl, by first | rfl | go_num⟩
            case round =>
              obtain ⟨k1, z1, hk1, hz1, rfl, rfl⟩ := hrel
              by_cases hlt1 : k1 < n1
              · obtain ⟨s, b, off, rfl, hb, hsz, hcell⟩ := H1.out.at hlt1
                by_cases h1 : 1048576 < s.size
                · go_wp2
                  go_ret
                  exact ⟨_, rfl, rfl⟩
                · by_cases h2 : 1048576 < z1 + s.size
                  · go_wp2
                    go_ret
                    exact ⟨_, rfl, rfl⟩
                  · go_wp2
                    go_round
                    case rel => exact ⟨k1 + 1, z1 + s.size, by omega, by omega, by go_num, by go_num⟩
                    case measure => simp [intOf]; omega
              · by_cases t2 : 1048576 < n2
                · go_wp2
                  go_ret
                  exact ⟨_, rfl, rfl⟩
                · by_cases u2 : 1048576 < z1 + n2
                  · go_wp2
                    go_ret
                    exact ⟨_, rfl, rfl⟩
                  · go_wp2
                    go_loop [7, 10] (fun z i => ∃ k m : Nat, k ≤ n2 ∧ m ≤ 1048576 ∧ i = .int .i64 k ∧ z = .int .i64 m) (fun _ i => n2 - (intOf i).toNat)
                    case atStart => exact ⟨0, z1 + n2, Nat.zero_le _, by omega, rfl, by first | rfl | go_num⟩
                    case round =>
                      obtain ⟨k2, z2, hk2, hz2, rfl, rfl⟩ := hrel
                      by_cases hlt2 : k2 < n2
                      · obtain ⟨s, b, off, rfl, hb, hsz, hcell⟩ := H2.out.at hlt2
                        by_cases h1 : 1048576 < s.size
                        · go_wp2
                          go_ret
                          exact ⟨_, rfl, rfl⟩
                        · by_cases h2 : 1048576 < z2 + s.size
                          · go_wp2
                            go_ret
                            exact ⟨_, rfl, rfl⟩
                          · go_wp2
                            go_round
                            case rel => exact ⟨k2 + 1, z2 + s.size, by omega, by omega, by go_num, by go_num⟩
                            case measure => simp [intOf]; omega
                      · go_wp2
                        go_ret
                        exact ⟨_, rfl, rfl⟩

set_option maxHeartbeats 800000 in
theorem bytes_any (w : World) (a : Option Addr) (n c : Nat) (ss : List ByteArray) (h : IsStrs w a n c ss) : Calls Try.prog 6 #[.slice a n c] w (SomeI w) := by
  have m0 : n ≤ 9223372036854775807 := by have := h.2.1; have := h.2.2.1; unfold maxLen at this; omega
  have H := Lib.hid h
  clear h
  go_enter Try.func6, Try.ntmps6
  go_wp2
  go_loop [3, 4] (fun z i => ∃ (k : Nat) (m : Int), k ≤ n ∧ i = .int .i64 k ∧ z = .int .i64 m) (fun _ i => n - (intOf i).toNat)
  case atStart => exact ⟨0, _, Nat.zero_le _, rfl, rfl⟩
  case round =>
    obtain ⟨k, m, hk, rfl, rfl⟩ := hrel
    by_cases hlt : k < n
    · obtain ⟨s, b, off, rfl, hb, hsz, hcell⟩ := H.out.at hlt
      go_wp2
      go_round
      case rel => exact ⟨k + 1, _, by omega, by go_num, rfl⟩
      case measure => simp [intOf]; omega
    · go_wp2
      go_ret
      exact ⟨_, rfl, rfl⟩
end Go.Proofs.Ytnmedoekbcbgbaa
