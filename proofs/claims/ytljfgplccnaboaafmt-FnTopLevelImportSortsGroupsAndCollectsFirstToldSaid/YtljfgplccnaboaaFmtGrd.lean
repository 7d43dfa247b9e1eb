/- The size guards. -/
import Derived.Test.YtljfgplccnaboaaFmtCom
import Derived.Test.YtljfgplccnaboaaFmtArgs
namespace Go.Proofs.YtljfgplccnaboaaFmt
open Go.RowKit
set_option linter.unusedVariables false

def SomeB (w : World) (e : Ending) (w' : World) : Prop := ∃ r : Bool, e = .returned (.bool r) ∧ w = w'
def BytesN (w : World) (e : Ending) (w' : World) : Prop := ∃ n : Int, e = .returned (.int .i64 n) ∧ w = w'
theorem IsStrs.atS {w : World} {a : Option Addr} {n c : Nat} {ss : List ByteArray} (h : IsStrs w a n c ss) {k : Nat} (hk : k < n) : ∃ (s : ByteArray) (b off : Nat), ss[k]? = some s ∧ a = some ⟨b, off, none⟩ ∧ b < w.heap.size ∧ s.size ≤ maxLen ∧ w.cell? ⟨b, off + k, none⟩ = some (.string s) := by
  obtain ⟨hl, h1, h2, h3, h4, h5⟩ := h
  have hk2 : k < ss.length := by omega
  obtain ⟨b, off, rfl, hb, hc⟩ := h5.pos (by simp; omega)
  exact ⟨ss[k], b, off, by simp, rfl, hb, h4 _ (List.getElem_mem _), hc k _ (by simp [hk2])⟩

set_option maxRecDepth 100000 in
set_option maxHeartbeats 3200000 in
theorem guard7 (w : World) (a : Option Addr) (n c : Nat) (ss : List ByteArray) (a1 : Option Addr) (n1 c1 : Nat) (h : IsStrs w a n c ss) (h1 : n1 ≤ maxLen) :
    Calls Tryf.prog 7 #[.slice a n c, .slice a1 n1 c1] w (SomeB w) := by
  have m0 : n ≤ 9223372036854775807 := by have := h.2.1; have := h.2.2.1; unfold maxLen at this; omega
  have m1 : n1 ≤ 9223372036854775807 := by unfold maxLen at h1; omega
  have H := Lib.hid h
  clear h h1
  by_cases t0 : 1048576 < n
  · go_enter Tryf.func7, Tryf.ntmps7
    go_wp2
    go_ret
    exact ⟨_, rfl, rfl⟩
  · go_enter Tryf.func7, Tryf.ntmps7
    go_wp2
    go_loop [5, 6] (fun z i => ∃ k m : Nat, k ≤ n ∧ m ≤ 1048576 ∧ i = .int .i64 k ∧ z = .int .i64 m) (fun _ i => n - (intOf i).toNat)
    case atStart => exact ⟨0, n, Nat.zero_le _, by omega, rfl, by first | rfl | go_num⟩
    case round =>
      obtain ⟨k, m, hk, hm, rfl, rfl⟩ := hrel
      by_cases hlt : k < n
      · obtain ⟨s, b, off, _, rfl, hb, hsz, hcell⟩ := H.out.atS hlt
        have hs2 : s.size ≤ 9223372036854775807 := by unfold maxLen at hsz; omega
        by_cases v0 : 1048576 < s.size
        · go_wp2
          go_ret
          exact ⟨_, rfl, rfl⟩
        · by_cases v1 : 1048576 < m + s.size
          · go_wp2
            go_ret
            exact ⟨_, rfl, rfl⟩
          · go_wp2
            go_round
            case rel => exact ⟨k + 1, m + s.size, by omega, by omega, by go_num, by go_num⟩
            case measure => simp [intOf]; omega
      · by_cases v0 : 1048576 < n1
        · go_wp2
          go_ret
          exact ⟨_, rfl, rfl⟩
        · by_cases v1 : 1048576 < m + n1
          · go_wp2
            go_ret
            exact ⟨_, rfl, rfl⟩
          · go_wp2
            go_ret
            exact ⟨_, rfl, rfl⟩

set_option maxRecDepth 100000 in
set_option maxHeartbeats 3200000 in
theorem guard19 (w : World) (a : Option Addr) (n c : Nat) (ss : List ByteArray) (a1 : Option Addr) (n1 c1 : Nat) (h : IsStrs w a n c ss) (h1 : n1 ≤ maxLen) :
    Calls Tryf.prog 19 #[.slice a n c, .slice a1 n1 c1] w (SomeB w) := by
  have m0 : n ≤ 9223372036854775807 := by have := h.2.1; have := h.2.2.1; unfold maxLen at this; omega
  have m1 : n1 ≤ 9223372036854775807 := by unfold maxLen at h1; omega
  have H := Lib.hid h
  clear h h1
  by_cases t0 : 1048576 < n
  · go_enter Tryf.func19, Tryf.ntmps19
    go_wp2
    go_ret
    exact ⟨_, rfl, rfl⟩
  · go_enter Tryf.func19, Tryf.ntmps19
    go_wp2
    go_loop [5, 6] (fun z i => ∃ k m : Nat, k ≤ n ∧ m ≤ 1048576 ∧ i = .int .i64 k ∧ z = .int .i64 m) (fun _ i => n - (intOf i).toNat)
    case atStart => exact ⟨0, n, Nat.zero_le _, by omega, rfl, by first | rfl | go_num⟩
    case round =>
      obtain ⟨k, m, hk, hm, rfl, rfl⟩ := hrel
      by_cases hlt : k < n
      · obtain ⟨s, b, off, _, rfl, hb, hsz, hcell⟩ := H.out.atS hlt
        have hs2 : s.size ≤ 9223372036854775807 := by unfold maxLen at hsz; omega
        by_cases v0 : 1048576 < s.size
        · go_wp2
          go_ret
          exact ⟨_, rfl, rfl⟩
        · by_cases v1 : 1048576 < m + s.size
          · go_wp2
            go_ret
            exact ⟨_, rfl, rfl⟩
          · go_wp2
            go_round
            case rel => exact ⟨k + 1, m + s.size, by omega, by omega, by go_num, by go_num⟩
            case measure => simp [intOf]; omega
      · by_cases v0 : 1048576 < n1
        · go_wp2
          go_ret
          exact ⟨_, rfl, rfl⟩
        · by_cases v1 : 1048576 < m + n1
          · go_wp2
            go_ret
            exact ⟨_, rfl, rfl⟩
          · go_wp2
            go_ret
            exact ⟨_, rfl, rfl⟩

set_option maxRecDepth 100000 in
set_option maxHeartbeats 3200000 in
theorem guard21 (w : World) (a : Option Addr) (n c : Nat) (ss : List ByteArray) (a1 : Option Addr) (n1 c1 : Nat) (h : IsStrs w a n c ss) (h1 : n1 ≤ maxLen) :
    Calls Tryf.prog 21 #[.slice a n c, .slice a1 n1 c1] w (SomeB w) := by
  have m0 : n ≤ 9223372036854775807 := by have := h.2.1; have := h.2.2.1; unfold maxLen at this; omega
  have m1 : n1 ≤ 9223372036854775807 := by unfold maxLen at h1; omega
  have H := Lib.hid h
  clear h h1
  by_cases t0 : 1048576 < n
  · go_enter Tryf.func21, Tryf.ntmps21
    go_wp2
    go_ret
    exact ⟨_, rfl, rfl⟩
  · go_enter Tryf.func21, Tryf.ntmps21
    go_wp2
    go_loop [5, 6] (fun z i => ∃ k m : Nat, k ≤ n ∧ m ≤ 1048576 ∧ i = .int .i64 k ∧ z = .int .i64 m) (fun _ i => n - (intOf i).toNat)
    case atStart => exact ⟨0, n, Nat.zero_le _, by omega, rfl, by first | rfl | go_num⟩
    case round =>
      obtain ⟨k, m, hk, hm, rfl, rfl⟩ := hrel
      by_cases hlt : k < n
      · obtain ⟨s, b, off, _, rfl, hb, hsz, hcell⟩ := H.out.atS hlt
        have hs2 : s.size ≤ 9223372036854775807 := by unfold maxLen at hsz; omega
        by_cases v0 : 1048576 < s.size
        · go_wp2
          go_ret
          exact ⟨_, rfl, rfl⟩
        · by_cases v1 : 1048576 < m + s.size
          · go_wp2
            go_ret
            exact ⟨_, rfl, rfl⟩
          · go_wp2
            go_round
            case rel => exact ⟨k + 1, m + s.size, by omega, by omega, by go_num, by go_num⟩
            case measure => simp [intOf]; omega
      · by_cases v0 : 1048576 < n1
        · go_wp2
          go_ret
          exact ⟨_, rfl, rfl⟩
        · by_cases v1 : 1048576 < m + n1
          · go_wp2
            go_ret
            exact ⟨_, rfl, rfl⟩
          · go_wp2
            go_ret
            exact ⟨_, rfl, rfl⟩

set_option maxRecDepth 100000 in
set_option maxHeartbeats 3200000 in
theorem guard23 (w : World) (a : Option Addr) (n c : Nat) (ss : List ByteArray) (a1 : Option Addr) (n1 c1 : Nat) (h : IsStrs w a n c ss) (h1 : n1 ≤ maxLen) :
    Calls Tryf.prog 23 #[.slice a n c, .slice a1 n1 c1] w (SomeB w) := by
  have m0 : n ≤ 9223372036854775807 := by have := h.2.1; have := h.2.2.1; unfold maxLen at this; omega
  have m1 : n1 ≤ 9223372036854775807 := by unfold maxLen at h1; omega
  have H := Lib.hid h
  clear h h1
  by_cases t0 : 1048576 < n
  · go_enter Tryf.func23, Tryf.ntmps23
    go_wp2
    go_ret
    exact ⟨_, rfl, rfl⟩
  · go_enter Tryf.func23, Tryf.ntmps23
    go_wp2
    go_loop [5, 6] (fun z i => ∃ k m : Nat, k ≤ n ∧ m ≤ 1048576 ∧ i = .int .i64 k ∧ z = .int .i64 m) (fun _ i => n - (intOf i).toNat)
    case atStart => exact ⟨0, n, Nat.zero_le _, by omega, rfl, by first | rfl | go_num⟩
    case round =>
      obtain ⟨k, m, hk, hm, rfl, rfl⟩ := hrel
      by_cases hlt : k < n
      · obtain ⟨s, b, off, _, rfl, hb, hsz, hcell⟩ := H.out.atS hlt
        have hs2 : s.size ≤ 9223372036854775807 := by unfold maxLen at hsz; omega
        by_cases v0 : 1048576 < s.size
        · go_wp2
          go_ret
          exact ⟨_, rfl, rfl⟩
        · by_cases v1 : 1048576 < m + s.size
          · go_wp2
            go_ret
            exact ⟨_, rfl, rfl⟩
          · go_wp2
            go_round
            case rel => exact ⟨k + 1, m + s.size, by omega, by omega, by go_num, by go_num⟩
            case measure => simp [intOf]; omega
      · by_cases v0 : 1048576 < n1
        · go_wp2
          go_ret
          exact ⟨_, rfl, rfl⟩
        · by_cases v1 : 1048576 < m + n1
          · go_wp2
            go_ret
            exact ⟨_, rfl, rfl⟩
          · go_wp2
            go_ret
            exact ⟨_, rfl, rfl⟩

set_option maxRecDepth 100000 in
set_option maxHeartbeats 3200000 in
theorem bytes8 (w : World) (a : Option Addr) (n c : Nat) (ss : List ByteArray) (a1 : Option Addr) (n1 c1 : Nat) (h : IsStrs w a n c ss) (h0 : n ≤ 4096) (h1 : n1 ≤ 4096) :
    Calls Tryf.prog 8 #[.slice a n c, .slice a1 n1 c1] w (BytesN w) := by
  have H := Lib.hid h
  clear h
  go_enter Tryf.func8, Tryf.ntmps8
  go_wp2
  go_loop [5, 6] (fun z i => ∃ (k : Nat) (x : Int), k ≤ n ∧ i = .int .i64 k ∧ z = .int .i64 x) (fun _ i => n - (intOf i).toNat)
  case atStart => exact ⟨0, _, Nat.zero_le _, rfl, rfl⟩
  case round =>
    obtain ⟨k, x, hk, rfl, rfl⟩ := hrel
    by_cases hlt : k < n
    · obtain ⟨s, b, off, _, rfl, hb, hsz, hcell⟩ := H.out.atS hlt
      by_cases v0 : 1048576 < wrap64 (x + s.size)
      · have d0 : decide (1048576 < wrap64 (x + s.size)) = true := by simpa using v0
        go_wp2
        go_ret
        exact ⟨_, rfl, rfl⟩
      · have d0 : decide (1048576 < wrap64 (x + s.size)) = false := by simpa using v0
        go_wp2
        go_round
        case rel => exact ⟨k + 1, _, by omega, by go_num, rfl⟩
        case measure => simp [intOf]; omega
    · go_wp2
      go_ret
      exact ⟨_, rfl, rfl⟩
end Go.Proofs.YtljfgplccnaboaaFmt
