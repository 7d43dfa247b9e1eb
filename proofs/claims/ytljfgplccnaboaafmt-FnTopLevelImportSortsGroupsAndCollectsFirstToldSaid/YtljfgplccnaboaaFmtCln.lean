/- zzCloneStrings and zzCloneBools: fresh copies. -/
import Derived.Test.YtljfgplccnaboaaFmtArgs
import Derived.Test.YtljfgplccnaboaaFmtFill
namespace Go.Proofs.YtljfgplccnaboaaFmt
open Go.RowKit
set_option linter.unusedVariables false

theorem info_partsC {P : Program} {e : TypeId} {z : Value} {s b : Nat} (h : (P.info? e).map (fun i => (i.zero, i.size, i.bytes)) = some (some z, s, b)) : ∃ i : TypeInfo, P.info? e = some i ∧ i.zero = some z ∧ i.size = s ∧ i.bytes = b := by
  cases hh : P.info? e with
  | none => rw [hh] at h; cases h
  | some i => rw [hh] at h; simp only [Option.map_some, Option.some.injEq, Prod.mk.injEq] at h; exact ⟨i, rfl, h.1, h.2.1, h.2.2⟩
/-- A fresh copy of the cells L. -/
def Copied (w : World) (n : Nat) (L : List Value) (e : Ending) (w' : World) : Prop := ∃ a c, e = .returned (.slice a n c) ∧ Rd w' w'.heap.size a L ∧ Below w.heap.size w w'

theorem inf9 : (Tryf.prog.info? 9).map (fun i => (i.zero, i.size, i.bytes)) = some (some (.string ⟨#[]⟩), 1, 16) := by kernel_rfl
set_option maxRecDepth 100000 in
set_option maxHeartbeats 1600000 in
theorem clone9 (w : World) (a : Option Addr) (n c : Nat) (ss : List ByteArray) (hl : ss.length = n) (hn : n ≤ 4096) (ha : a = none → n = 0 ∧ c = 0) (hr : Rd w w.heap.size a (ss.map Value.string)) : Calls Tryf.prog 9 #[.slice a n c] w (Copied w n (ss.map Value.string)) := by
  unfold Copied
  cases a with
  | none =>
    obtain ⟨rfl, rfl⟩ := ha rfl
    obtain rfl := List.length_eq_zero_iff.1 hl
    have hne : ∀ W, (binOp .eql 22 (.slice none 0 0) (.slice none 0 0)).run Tryf.prog W = .ok (.bool true) W := fun W => by kernel_rfl
    clear ha hr hl
    go_enter Tryf.func9, Tryf.ntmps9
    go_wp2
    go_ret
    exact ⟨_, _, rfl, .inl rfl, Below.refl _ _⟩
  | some x =>
    have HN := Lib.hid hl
    have HR := Lib.hid hr
    clear hl hr ha
    obtain ⟨i0, hi, hz0, hz1, hz2⟩ := info_partsC inf9
    have hmk := fun W => run_make_n (P := Tryf.prog) 22 9 i0 _ Tryf.underlying22 hi hz0 .i64 .i64 n n (Nat.le_refl _) (by rw [hz2]; omega) (by omega) W
    rw [hz1, Nat.mul_one] at hmk
    generalize hZ : madeCells (Value.cells (.string ⟨#[]⟩)) n = Z at hmk
    obtain ⟨Z, rfl⟩ : ∃ L : List Value, Z = L.toArray := ⟨Z.toList, by simp⟩
    obtain ⟨L, hL⟩ : ∃ L, L = ss.map Value.string := ⟨_, rfl⟩
    have HLE := Lib.hid hL
    have HLN := Lib.hid (show L.length = n by rw [hL, List.length_map, HN.out])
    have HZ := Lib.hid (show Z.length = L.length by have := congrArg Array.size hZ; simp [size_madeCells, Value.cells] at this; rw [HLN.out]; omega)
    clear hZ hi hz0 hz1 hz2 hL
    have hne : ∀ W, (binOp .eql 22 (.slice (some x) n c) (.slice none 0 0)).run Tryf.prog W = .ok (.bool false) W := fun W => by kernel_rfl
    go_enter Tryf.func9, Tryf.ntmps9
    go_wp2_with fail
    go_loopw [4] (fun i wr => ∃ k : Nat, k ≤ n ∧ i = .int .i64 k ∧ Hid (Blk wr w.heap.size 9 (fillA L Z k)) ∧ Hid (Below w.heap.size w wr)) (fun i _ => n - (intOf i).toNat)
    case atStart => exact ⟨0, Nat.zero_le _, rfl, Lib.hid (by rw [fill_zero]; exact Blk.new _ _ _), Lib.hid ((Below.refl _ _).alloc (Nat.le_refl _) _)⟩
    case round =>
      obtain ⟨k, hk, rfl, hblk, hbel⟩ := hrel
      by_cases hlt : k < n
      · obtain ⟨bb, off, hxx, hbb, hc⟩ := HR.out.pos (by simp [HN.out]; omega)
        obtain rfl : x = _ := Option.some.inj hxx
        obtain ⟨s, hs⟩ : ∃ s, ss[k]? = some s := ⟨ss[k]'(by rw [HN.out]; exact hlt), by simp⟩
        have hcell : wr.cell? ⟨bb, off + k, none⟩ = some (Value.string s) := (hbel.out.cell (p := ⟨bb, off + k, none⟩) hbb).trans (hc k _ (by simp [hs]))
        obtain ⟨u, hu⟩ := fill_at hblk.out HZ.out (k := k) (by rw [HLN.out]; exact hlt)
        have hfr := hblk.out.free k
        have HS := Lib.hid (hblk.out.set k (Value.string s))
        have HU := Lib.hid (fill_set' L Z k (Value.string s) HZ.out (by rw [HLE.out]; simp [hs]))
        have hsz := hblk.out.lt
        have HB := Lib.hid (hbel.out.setCell (p := ⟨w.heap.size, k, none⟩) (Nat.le_refl _) (Value.string s))
        clear hc hs hxx
        go_wp2
        go_roundw
        case rel => exact ⟨k + 1, by omega, by go_num, Lib.hid (by rw [← HU.out]; exact HS.out), HB⟩
        case measure => simp [intOf]; omega
      · have hkn : k = n := by omega
        subst hkn
        have HF := Lib.hid (show Blk wr w.heap.size 9 L.toArray by have := hblk.out; rwa [fill_all L Z k (by rw [HLN.out]; exact Nat.le_refl _) (by rw [HZ.out, HLN.out]; exact Nat.le_refl _)] at this)
        go_wp2_with fail
        go_ret
        refine ⟨_, _, rfl, ?_, hbel.out⟩
        have := HF.out.rd wr.heap.size HF.out.lt
        rw [HLE.out] at this
        simpa using this

theorem inf4 : (Tryf.prog.info? 4).map (fun i => (i.zero, i.size, i.bytes)) = some (some (.bool false), 1, 1) := by kernel_rfl
set_option maxRecDepth 100000 in
set_option maxHeartbeats 1600000 in
theorem clone10 (w : World) (a : Option Addr) (n c : Nat) (ss : List Bool) (hl : ss.length = n) (hn : n ≤ 4096) (ha : a = none → n = 0 ∧ c = 0) (hr : Rd w w.heap.size a (ss.map Value.bool)) : Calls Tryf.prog 10 #[.slice a n c] w (Copied w n (ss.map Value.bool)) := by
  unfold Copied
  cases a with
  | none =>
    obtain ⟨rfl, rfl⟩ := ha rfl
    obtain rfl := List.length_eq_zero_iff.1 hl
    have hne : ∀ W, (binOp .eql 23 (.slice none 0 0) (.slice none 0 0)).run Tryf.prog W = .ok (.bool true) W := fun W => by kernel_rfl
    clear ha hr hl
    go_enter Tryf.func10, Tryf.ntmps10
    go_wp2
    go_ret
    exact ⟨_, _, rfl, .inl rfl, Below.refl _ _⟩
  | some x =>
    have HN := Lib.hid hl
    have HR := Lib.hid hr
    clear hl hr ha
    obtain ⟨i0, hi, hz0, hz1, hz2⟩ := info_partsC inf4
    have hmk := fun W => run_make_n (P := Tryf.prog) 23 4 i0 _ Tryf.underlying23 hi hz0 .i64 .i64 n n (Nat.le_refl _) (by rw [hz2]; omega) (by omega) W
    rw [hz1, Nat.mul_one] at hmk
    generalize hZ : madeCells (Value.cells (.bool false)) n = Z at hmk
    obtain ⟨Z, rfl⟩ : ∃ L : List Value, Z = L.toArray := ⟨Z.toList, by simp⟩
    obtain ⟨L, hL⟩ : ∃ L, L = ss.map Value.bool := ⟨_, rfl⟩
    have HLE := Lib.hid hL
    have HLN := Lib.hid (show L.length = n by rw [hL, List.length_map, HN.out])
    have HZ := Lib.hid (show Z.length = L.length by have := congrArg Array.size hZ; simp [size_madeCells, Value.cells] at this; rw [HLN.out]; omega)
    clear hZ hi hz0 hz1 hz2 hL
    have hne : ∀ W, (binOp .eql 23 (.slice (some x) n c) (.slice none 0 0)).run Tryf.prog W = .ok (.bool false) W := fun W => by kernel_rfl
    go_enter Tryf.func10, Tryf.ntmps10
    go_wp2_with fail
    go_loopw [4] (fun i wr => ∃ k : Nat, k ≤ n ∧ i = .int .i64 k ∧ Hid (Blk wr w.heap.size 4 (fillA L Z k)) ∧ Hid (Below w.heap.size w wr)) (fun i _ => n - (intOf i).toNat)
    case atStart => exact ⟨0, Nat.zero_le _, rfl, Lib.hid (by rw [fill_zero]; exact Blk.new _ _ _), Lib.hid ((Below.refl _ _).alloc (Nat.le_refl _) _)⟩
    case round =>
      obtain ⟨k, hk, rfl, hblk, hbel⟩ := hrel
      by_cases hlt : k < n
      · obtain ⟨bb, off, hxx, hbb, hc⟩ := HR.out.pos (by simp [HN.out]; omega)
        obtain rfl : x = _ := Option.some.inj hxx
        obtain ⟨s, hs⟩ : ∃ s, ss[k]? = some s := ⟨ss[k]'(by rw [HN.out]; exact hlt), by simp⟩
        have hcell : wr.cell? ⟨bb, off + k, none⟩ = some (Value.bool s) := (hbel.out.cell (p := ⟨bb, off + k, none⟩) hbb).trans (hc k _ (by simp [hs]))
        obtain ⟨u, hu⟩ := fill_at hblk.out HZ.out (k := k) (by rw [HLN.out]; exact hlt)
        have hfr := hblk.out.free k
        have HS := Lib.hid (hblk.out.set k (Value.bool s))
        have HU := Lib.hid (fill_set' L Z k (Value.bool s) HZ.out (by rw [HLE.out]; simp [hs]))
        have hsz := hblk.out.lt
        have HB := Lib.hid (hbel.out.setCell (p := ⟨w.heap.size, k, none⟩) (Nat.le_refl _) (Value.bool s))
        clear hc hs hxx
        go_wp2
        go_roundw
        case rel => exact ⟨k + 1, by omega, by go_num, Lib.hid (by rw [← HU.out]; exact HS.out), HB⟩
        case measure => simp [intOf]; omega
      · have hkn : k = n := by omega
        subst hkn
        have HF := Lib.hid (show Blk wr w.heap.size 4 L.toArray by have := hblk.out; rwa [fill_all L Z k (by rw [HLN.out]; exact Nat.le_refl _) (by rw [HZ.out, HLN.out]; exact Nat.le_refl _)] at this)
        go_wp2_with fail
        go_ret
        refine ⟨_, _, rfl, ?_, hbel.out⟩
        have := HF.out.rd wr.heap.size HF.out.lt
        rw [HLE.out] at this
        simpa using this
end Go.Proofs.YtljfgplccnaboaaFmt
