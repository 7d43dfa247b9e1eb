/- Contracts of the size counts, zzIdents, Less and zzLessStr. -/
import Derived.Test.YtdgnkkjkjdlmcaaArgs
import Derived.Test.YtdgnkkjkjdlmcaaFill
namespace Go.Proofs.Ytdgnkkjkjdlmcaa
open Go.RowKit
set_option linter.unusedVariables false

/-- the string at place i of the list, in the walk's own spelling -/
theorem str_at {w : World} {b off : Nat} {ss : List ByteArray} (hc : ∀ i u, (ss.map Value.string)[i]? = some u → w.cell? ⟨b, off + i, none⟩ = some u) {k : Nat} (hk : k < ss.length) :
    w.cell? ⟨b, off + k, none⟩ = some (.string (ss[k]'hk)) := hc k _ (by simp [hk])

def SomeI (w : World) (e : Ending) (w' : World) : Prop := ∃ n : Int, e = .returned (.int .i64 n) ∧ w = w'
def SomeB (w : World) (e : Ending) (w' : World) : Prop := ∃ b : Bool, e = .returned (.bool b) ∧ w = w'

set_option maxHeartbeats 400000 in
theorem bytes_any (w : World) (a : Option Addr) (len cap : Nat) (ss : List ByteArray) (h : IsStrs w a len cap ss) :
    Calls Try.prog 14 #[.slice a len cap] w (SomeI w) := by
  obtain ⟨hl, hlc, hcm, hn, hs, hr⟩ := h
  unfold maxLen at hcm
  go_enter Try.func14, Try.ntmps14
  go_wp2
  go_loop [3, 4] (fun n i => ∃ (k : Nat) (m : Int), k ≤ len ∧ i = .int .i64 k ∧ n = .int .i64 m) (fun _ i => len - (intOf i).toNat)
  case atStart => exact ⟨0, _, Nat.zero_le _, rfl, rfl⟩
  case round =>
    obtain ⟨k, m, hk, rfl, rfl⟩ := hrel
    by_cases hlt : k < len
    · obtain ⟨b, off, rfl, hb, hc⟩ := hr.pos (by simp; omega)
      have hcell := str_at hc (k := k) (by omega)
      clear hc hr
      go_wp2
      go_round
      case rel => exact ⟨k + 1, _, by omega, by go_num, rfl⟩
      case measure => simp [intOf]; omega
    · go_wp2
      go_ret
      exact ⟨_, rfl, rfl⟩

set_option maxHeartbeats 800000 in
theorem guard13 (w : World) (a : Option Addr) (len cap : Nat) (ss : List ByteArray) (i j : Int) (h : IsStrs w a len cap ss) :
    Calls Try.prog 13 #[.slice a len cap, .int .i64 i, .int .i64 j] w (SomeB w) := by
  obtain ⟨hl, hlc, hcm, hn, hs, hr⟩ := h
  unfold maxLen at hcm
  by_cases hbig : 1048576 < len
  · go_enter Try.func13, Try.ntmps13
    go_wp2
    go_ret
    exact ⟨_, rfl, rfl⟩
  · go_enter Try.func13, Try.ntmps13
    go_wp2
    go_loop [7, 8] (fun n i => ∃ k m : Nat, k ≤ len ∧ m ≤ 1048576 ∧ i = .int .i64 k ∧ n = .int .i64 m) (fun _ i => len - (intOf i).toNat)
    case atStart => exact ⟨0, len, Nat.zero_le _, by omega, rfl, by go_num⟩
    case round =>
      obtain ⟨k, m, hk, hm, rfl, rfl⟩ := hrel
      by_cases hlt : k < len
      · obtain ⟨b, off, rfl, hb, hc⟩ := hr.pos (by simp; omega)
        have hcell := str_at hc (k := k) (by omega)
        clear hc hr
        by_cases h1 : 1048576 < (ss[k]'(by omega)).size
        · have h63 : (ss[k]'(by omega)).size ≤ 9223372036854775807 := hs _ (List.getElem_mem _)
          clear hs
          go_wp2
          go_ret
          exact ⟨_, rfl, rfl⟩
        · clear hs
          by_cases h2 : 1048576 < m + (ss[k]'(by omega)).size
          · go_wp2
            go_ret
            exact ⟨_, rfl, rfl⟩
          · go_wp2
            go_round
            case rel => exact ⟨k + 1, m + (ss[k]'(by omega)).size, by omega, by omega, by go_num, by go_num⟩
            case measure => simp [intOf]; omega
      · clear hs
        go_wp2
        go_ret
        exact ⟨_, rfl, rfl⟩

set_option maxHeartbeats 800000 in
theorem guard29 (w : World) (a : Option Addr) (len cap : Nat) (ss : List ByteArray) (i j : Int) (h : IsStrs w a len cap ss) :
    Calls Try.prog 29 #[.slice a len cap, .int .i64 i, .int .i64 j] w (SomeB w) := by
  obtain ⟨hl, hlc, hcm, hn, hs, hr⟩ := h
  unfold maxLen at hcm
  by_cases hbig : 1048576 < len
  · go_enter Try.func29, Try.ntmps29
    go_wp2
    go_ret
    exact ⟨_, rfl, rfl⟩
  · go_enter Try.func29, Try.ntmps29
    go_wp2
    go_loop [7, 8] (fun n i => ∃ k m : Nat, k ≤ len ∧ m ≤ 1048576 ∧ i = .int .i64 k ∧ n = .int .i64 m) (fun _ i => len - (intOf i).toNat)
    case atStart => exact ⟨0, len, Nat.zero_le _, by omega, rfl, by go_num⟩
    case round =>
      obtain ⟨k, m, hk, hm, rfl, rfl⟩ := hrel
      by_cases hlt : k < len
      · obtain ⟨b, off, rfl, hb, hc⟩ := hr.pos (by simp; omega)
        have hcell := str_at hc (k := k) (by omega)
        clear hc hr
        by_cases h1 : 1048576 < (ss[k]'(by omega)).size
        · have h63 : (ss[k]'(by omega)).size ≤ 9223372036854775807 := hs _ (List.getElem_mem _)
          clear hs
          go_wp2
          go_ret
          exact ⟨_, rfl, rfl⟩
        · clear hs
          by_cases h2 : 1048576 < m + (ss[k]'(by omega)).size
          · go_wp2
            go_ret
            exact ⟨_, rfl, rfl⟩
          · go_wp2
            go_round
            case rel => exact ⟨k + 1, m + (ss[k]'(by omega)).size, by omega, by omega, by go_num, by go_num⟩
            case measure => simp [intOf]; omega
      · clear hs
        go_wp2
        go_ret
        exact ⟨_, rfl, rfl⟩

set_option maxHeartbeats 800000 in
theorem guard32 (w : World) (a : Option Addr) (len cap : Nat) (ss : List ByteArray) (i j : Int) (h : IsStrs w a len cap ss) :
    Calls Try.prog 32 #[.slice a len cap, .int .i64 i, .int .i64 j] w (SomeB w) := by
  obtain ⟨hl, hlc, hcm, hn, hs, hr⟩ := h
  unfold maxLen at hcm
  by_cases hbig : 1048576 < len
  · go_enter Try.func32, Try.ntmps32
    go_wp2
    go_ret
    exact ⟨_, rfl, rfl⟩
  · go_enter Try.func32, Try.ntmps32
    go_wp2
    go_loop [7, 8] (fun n i => ∃ k m : Nat, k ≤ len ∧ m ≤ 1048576 ∧ i = .int .i64 k ∧ n = .int .i64 m) (fun _ i => len - (intOf i).toNat)
    case atStart => exact ⟨0, len, Nat.zero_le _, by omega, rfl, by go_num⟩
    case round =>
      obtain ⟨k, m, hk, hm, rfl, rfl⟩ := hrel
      by_cases hlt : k < len
      · obtain ⟨b, off, rfl, hb, hc⟩ := hr.pos (by simp; omega)
        have hcell := str_at hc (k := k) (by omega)
        clear hc hr
        by_cases h1 : 1048576 < (ss[k]'(by omega)).size
        · have h63 : (ss[k]'(by omega)).size ≤ 9223372036854775807 := hs _ (List.getElem_mem _)
          clear hs
          go_wp2
          go_ret
          exact ⟨_, rfl, rfl⟩
        · clear hs
          by_cases h2 : 1048576 < m + (ss[k]'(by omega)).size
          · go_wp2
            go_ret
            exact ⟨_, rfl, rfl⟩
          · go_wp2
            go_round
            case rel => exact ⟨k + 1, m + (ss[k]'(by omega)).size, by omega, by omega, by go_num, by go_num⟩
            case measure => simp [intOf]; omega
      · clear hs
        go_wp2
        go_ret
        exact ⟨_, rfl, rfl⟩

set_option maxHeartbeats 800000 in
theorem guard33 (w : World) (a : Option Addr) (len cap : Nat) (ss : List ByteArray) (i j l : Int) (h : IsStrs w a len cap ss) :
    Calls Try.prog 33 #[.slice a len cap, .int .i64 i, .int .i64 j, .int .i64 l] w (SomeB w) := by
  obtain ⟨hl, hlc, hcm, hn, hs, hr⟩ := h
  unfold maxLen at hcm
  by_cases hbig : 1048576 < len
  · go_enter Try.func33, Try.ntmps33
    go_wp2
    go_ret
    exact ⟨_, rfl, rfl⟩
  · go_enter Try.func33, Try.ntmps33
    go_wp2
    go_loop [9, 10] (fun n i => ∃ k m : Nat, k ≤ len ∧ m ≤ 1048576 ∧ i = .int .i64 k ∧ n = .int .i64 m) (fun _ i => len - (intOf i).toNat)
    case atStart => exact ⟨0, len, Nat.zero_le _, by omega, rfl, by go_num⟩
    case round =>
      obtain ⟨k, m, hk, hm, rfl, rfl⟩ := hrel
      by_cases hlt : k < len
      · obtain ⟨b, off, rfl, hb, hc⟩ := hr.pos (by simp; omega)
        have hcell := str_at hc (k := k) (by omega)
        clear hc hr
        by_cases h1 : 1048576 < (ss[k]'(by omega)).size
        · have h63 : (ss[k]'(by omega)).size ≤ 9223372036854775807 := hs _ (List.getElem_mem _)
          clear hs
          go_wp2
          go_ret
          exact ⟨_, rfl, rfl⟩
        · clear hs
          by_cases h2 : 1048576 < m + (ss[k]'(by omega)).size
          · go_wp2
            go_ret
            exact ⟨_, rfl, rfl⟩
          · go_wp2
            go_round
            case rel => exact ⟨k + 1, m + (ss[k]'(by omega)).size, by omega, by omega, by go_num, by go_num⟩
            case measure => simp [intOf]; omega
      · clear hs
        go_wp2
        go_ret
        exact ⟨_, rfl, rfl⟩

theorem Try.info46 : (Try.prog.info? 46).map (fun i => (i.zero, i.size, i.bytes)) = some (some (.string ⟨#[]⟩), 1, 16) := by kernel_rfl

set_option maxHeartbeats 800000 in
theorem idents_any (w : World) (a : Option Addr) (len cap : Nat) (ss : List ByteArray) (h : IsStrs w a len cap ss) (hle : len ≤ 65536) :
    Calls Try.prog 15 #[.slice a len cap] w fun e w' => e = .returned (.slice (some ⟨w.heap.size, 0, none⟩) len len) ∧ Blk w' w.heap.size 46 (ss.map Value.string).toArray ∧ Below w.heap.size w w' := by
  obtain ⟨hl, hlc, hcm, hn, hs, hr⟩ := h
  unfold maxLen at hcm
  clear hs hn
  obtain ⟨i0, hi, hz0, hz1, hz2⟩ := info_parts Try.info46
  have hmk := fun W => run_make_n (P := Try.prog) 30 46 i0 _ Try.underlying30 hi hz0 .i64 .i64 len len (Nat.le_refl _) (by rw [hz2]; omega) (by omega) W
  rw [hz1, Nat.mul_one] at hmk
  generalize hZ : madeCells (Value.string ⟨#[]⟩).cells len = Z at hmk
  have hZl : Z.toList.length = (ss.map Value.string).length := by rw [← hZ]; simp [size_madeCells, hl]
  have HL := Lib.hid hl
  have HZ := Lib.hid hZl
  clear hZ hZl hi hz0 hz1 hz2 hl
  go_enter Try.func15, Try.ntmps15
  go_wp2
  go_loopw [4] (fun i wr => ∃ k : Nat, k ≤ len ∧ i = .int .i64 k ∧ Blk wr w.heap.size 46 (fillA (ss.map Value.string) Z.toList k) ∧ Below w.heap.size w wr) (fun i _ => len - (intOf i).toNat)
  case atStart => exact ⟨0, Nat.zero_le _, rfl, by rw [fill_zero]; exact Blk.new _ _ _, (Below.refl _ _).alloc (Nat.le_refl _) _⟩
  case round =>
    obtain ⟨k, hk, rfl, hblk, hbel⟩ := hrel
    by_cases hlt : k < len
    · obtain ⟨b, off, rfl, hb, hc⟩ := (hr.below hbel).pos (by simp [HL.out]; omega)
      have hcell := str_at hc (k := k) (by rw [HL.out]; exact hlt)
      obtain ⟨v, hv⟩ := fill_at hblk HZ.out (by simp [HL.out]; exact hlt)
      have hfz := hblk.free k
      have HB := Lib.hid hblk
      clear hc hr hblk
      go_wp2
      go_roundw
      case rel =>
        refine ⟨k + 1, by omega, by go_num, ?_, hbel.setCell (Nat.le_refl _) _⟩
        have h2 := HB.out.set k (.string (ss[k]'(by rw [HL.out]; exact hlt)))
        rw [fill_set' _ _ k _ HZ.out (by simp)] at h2
        exact h2
      case measure => simp [intOf]; omega
    · go_wp2
      go_ret
      refine ⟨rfl, ?_, hbel⟩
      rw [fill_all _ _ k (by simp [HL.out]; omega) (by rw [HZ.out]; simp [HL.out]; omega)] at hblk
      exact hblk
end Go.Proofs.Ytdgnkkjkjdlmcaa
