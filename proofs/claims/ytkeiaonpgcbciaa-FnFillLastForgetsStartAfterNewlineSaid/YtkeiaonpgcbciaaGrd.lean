/- The size guards. Printed by grd.py. -/
import Derived.Test.YtkeiaonpgcbciaaBld
namespace Go.Proofs.Ytkeiaonpgcbciaa
open Go.RowKit
set_option linter.unusedVariables false

/-- Some answer, the world as it was; "true" only for a length of at most 2^20. -/
def GuardN (w : World) (n : Nat) (e : Ending) (w' : World) : Prop := ∃ r : Bool, e = .returned (.bool r) ∧ w = w' ∧ (r = true → n ≤ 1048576)

set_option maxHeartbeats 1600000 in
theorem guard16 (w : World) (a : Option Addr) (b : Option Addr) (c : Option Addr) (d : Option Addr) (n m p ca cb cc q cd : Nat) (ks bs is : List Int) (ss : List ByteArray) (x0 : Int) (x1 : Int) (ha : IsInts w a n ca ks) (hb : IsInts w b m cb bs) (hc : IsInts w c p cc is) (hd : IsStrs w d q cd ss) :
    Calls Try.prog 16 #[.slice a n ca, .slice b m cb, .slice c p cc, .slice d q cd, .int .i64 x0, .int .i64 x1] w (GuardN w n) := by
  obtain ⟨_, la, ma, _, _, _⟩ := ha
  obtain ⟨_, lb, mb, _, _, _⟩ := hb
  obtain ⟨_, lc, mc, _, _, _⟩ := hc
  obtain ⟨hl, hlc4, hcm4, hn4, hs, hr⟩ := hd
  unfold maxLen at hcm4 ma mb mc
  clear hn4
  by_cases t0 : 1048576 < n
  · clear hr hs
    go_enter Try.func16, Try.ntmps16
    go_wp2
    go_ret
    exact ⟨_, rfl, rfl, fun h => by first | cases h | omega⟩
  by_cases t1 : 1048576 < m
  · clear hr hs
    go_enter Try.func16, Try.ntmps16
    go_wp2
    go_ret
    exact ⟨_, rfl, rfl, fun h => by first | cases h | omega⟩
  by_cases t2 : 1048576 < n + m
  · clear hr hs
    go_enter Try.func16, Try.ntmps16
    go_wp2
    go_ret
    exact ⟨_, rfl, rfl, fun h => by first | cases h | omega⟩
  by_cases t3 : 1048576 < p
  · clear hr hs
    go_enter Try.func16, Try.ntmps16
    go_wp2
    go_ret
    exact ⟨_, rfl, rfl, fun h => by first | cases h | omega⟩
  by_cases t4 : 1048576 < n + m + p
  · clear hr hs
    go_enter Try.func16, Try.ntmps16
    go_wp2
    go_ret
    exact ⟨_, rfl, rfl, fun h => by first | cases h | omega⟩
  by_cases t5 : 1048576 < q
  · clear hr hs
    go_enter Try.func16, Try.ntmps16
    go_wp2
    go_ret
    exact ⟨_, rfl, rfl, fun h => by first | cases h | omega⟩
  by_cases t6 : 1048576 < n + m + p + q
  · clear hr hs
    go_enter Try.func16, Try.ntmps16
    go_wp2
    go_ret
    exact ⟨_, rfl, rfl, fun h => by first | cases h | omega⟩
  go_enter Try.func16, Try.ntmps16
  go_wp2
  go_loop [13, 14] (fun t i => ∃ k x : Nat, k ≤ q ∧ x ≤ 1048576 ∧ i = .int .i64 k ∧ t = .int .i64 x) (fun _ i => q - (intOf i).toNat)
  case atStart => exact ⟨0, n + m + p + q, Nat.zero_le _, by omega, rfl, by go_num⟩
  case round =>
    obtain ⟨k, x, hk, hx, rfl, rfl⟩ := hrel
    by_cases hlt : k < q
    · obtain ⟨bb, off, rfl, hb, hc⟩ := hr.pos (by simp; omega)
      have hcell := str_at hc (k := k) (by omega)
      have h63 : (ss[k]'(by omega)).size ≤ 9223372036854775807 := hs _ (List.getElem_mem _)
      generalize (ss[k]'(by omega)) = s at *
      clear hc hr hs
      by_cases hs1 : 1048576 < s.size
      · go_wp2
        go_ret
        exact ⟨_, rfl, rfl, fun h => by omega⟩
      by_cases hs2 : 1048576 < x + s.size
      · go_wp2
        go_ret
        exact ⟨_, rfl, rfl, fun h => by omega⟩
      go_wp2
      go_round
      case rel => exact ⟨k + 1, x + s.size, by omega, by omega, by go_num, by go_num⟩
      case measure => simp [intOf]; omega
    · clear hr hs
      go_wp2
      go_ret
      exact ⟨_, rfl, rfl, fun h => by omega⟩


set_option maxHeartbeats 1600000 in
theorem guard6 (w : World) (a : Option Addr) (b : Option Addr) (d : Option Addr) (n m ca cb q cd : Nat) (ks bs : List Int) (ss : List ByteArray) (x0 : Bool) (x1 : Bool) (x2 : Bool) (x3 : Int) (x4 : Int) (x5 : Int) (x6 : Int) (ha : IsInts w a n ca ks) (hb : IsInts w b m cb bs) (hd : IsStrs w d q cd ss) :
    Calls Try.prog 6 #[.slice a n ca, .slice b m cb, .slice d q cd, .bool x0, .bool x1, .bool x2, .int .i64 x3, .int .i64 x4, .int .i64 x5, .int .i64 x6] w (GuardN w n) := by
  obtain ⟨_, la, ma, _, _, _⟩ := ha
  obtain ⟨_, lb, mb, _, _, _⟩ := hb
  obtain ⟨hl, hlc4, hcm4, hn4, hs, hr⟩ := hd
  unfold maxLen at hcm4 ma mb
  clear hn4
  by_cases t0 : 1048576 < n
  · clear hr hs
    go_enter Try.func6, Try.ntmps6
    go_wp2
    go_ret
    exact ⟨_, rfl, rfl, fun h => by first | cases h | omega⟩
  by_cases t1 : 1048576 < m
  · clear hr hs
    go_enter Try.func6, Try.ntmps6
    go_wp2
    go_ret
    exact ⟨_, rfl, rfl, fun h => by first | cases h | omega⟩
  by_cases t2 : 1048576 < n + m
  · clear hr hs
    go_enter Try.func6, Try.ntmps6
    go_wp2
    go_ret
    exact ⟨_, rfl, rfl, fun h => by first | cases h | omega⟩
  by_cases t3 : 1048576 < q
  · clear hr hs
    go_enter Try.func6, Try.ntmps6
    go_wp2
    go_ret
    exact ⟨_, rfl, rfl, fun h => by first | cases h | omega⟩
  by_cases t4 : 1048576 < n + m + q
  · clear hr hs
    go_enter Try.func6, Try.ntmps6
    go_wp2
    go_ret
    exact ⟨_, rfl, rfl, fun h => by first | cases h | omega⟩
  go_enter Try.func6, Try.ntmps6
  go_wp2
  go_loop [21, 22] (fun t i => ∃ k x : Nat, k ≤ q ∧ x ≤ 1048576 ∧ i = .int .i64 k ∧ t = .int .i64 x) (fun _ i => q - (intOf i).toNat)
  case atStart => exact ⟨0, n + m + q, Nat.zero_le _, by omega, rfl, by go_num⟩
  case round =>
    obtain ⟨k, x, hk, hx, rfl, rfl⟩ := hrel
    by_cases hlt : k < q
    · obtain ⟨bb, off, rfl, hb, hc⟩ := hr.pos (by simp; omega)
      have hcell := str_at hc (k := k) (by omega)
      have h63 : (ss[k]'(by omega)).size ≤ 9223372036854775807 := hs _ (List.getElem_mem _)
      generalize (ss[k]'(by omega)) = s at *
      clear hc hr hs
      by_cases hs1 : 1048576 < s.size
      · go_wp2
        go_ret
        exact ⟨_, rfl, rfl, fun h => by omega⟩
      by_cases hs2 : 1048576 < x + s.size
      · go_wp2
        go_ret
        exact ⟨_, rfl, rfl, fun h => by omega⟩
      go_wp2
      go_round
      case rel => exact ⟨k + 1, x + s.size, by omega, by omega, by go_num, by go_num⟩
      case measure => simp [intOf]; omega
    · clear hr hs
      go_wp2
      go_ret
      exact ⟨_, rfl, rfl, fun h => by omega⟩


end Go.Proofs.Ytkeiaonpgcbciaa
