/- zzCloneStrs, zzToFodder and zzCloneFodder: fresh copies. -/
import Derived.Test.YtofhjpmkpgbgiaaMem
namespace Go.Proofs.Ytofhjpmkpgbgiaa
open Go.RowKit
set_option linter.unusedVariables false

theorem Try.inf9 : (Try.prog.info? 9).map (fun i => (i.zero, i.size, i.bytes)) = some (some (.string ⟨#[]⟩), 1, 16) := by kernel_rfl
theorem Try.inf50 : (Try.prog.info? 50).map (fun i => (i.zero, i.size, i.bytes)) = some (some (.agg #[.slice none 0 0, .int .i64 0, .int .i64 0, .int .i64 0]), 4, 48) := by kernel_rfl

/-- The blocks that came about between two worlds. -/
def New (w w' : World) (b : Nat) : Prop := w.heap.size ≤ b ∧ b < w'.heap.size
def Old (w : World) (b : Nat) : Prop := b < w.heap.size

def Cloned (w : World) (c : Option (List ByteArray)) (e : Ending) (w' : World) : Prop := ∃ v', e = .returned v' ∧ ComIs w' (New w w') v' c ∧ Below w.heap.size w w'

set_option maxRecDepth 100000 in
theorem clone_any (w : World) (v : Value) (c : Option (List ByteArray)) (h : ComIs w (Old w) v c) : Calls Try.prog 26 #[v] w (Cloned w c) := by
  cases c with
  | none =>
    obtain rfl : v = .slice none 0 0 := h
    have hne : ∀ W, (binOp .eql 48 (.slice none 0 0) (.slice none 0 0)).run Try.prog W = .ok (.bool true) W := fun W => by kernel_rfl
    go_enter Try.func26, Try.ntmps26
    go_wp2
    go_ret
    exact ⟨_, rfl, rfl, Below.refl _ _⟩
  | some ss =>
    obtain ⟨x, cp, rfl, hle, hr⟩ := h
    generalize hn : ss.length = n at *
    have HN := Lib.hid hn
    have HR := Lib.hid hr
    clear hn hr
    obtain ⟨i0, hi, hz0, hz1, hz2⟩ := info_parts Try.inf9
    have hmk := fun W => run_make_n (P := Try.prog) 48 9 i0 _ Try.underlying48 hi hz0 .i64 .i64 n n (Nat.le_refl _) (by rw [hz2]; omega) (by omega) W
    rw [hz1, Nat.mul_one] at hmk
    generalize hZ : madeCells (Value.string ⟨#[]⟩).cells n = Z at hmk
    obtain ⟨Z, rfl⟩ : ∃ L : List Value, Z = L.toArray := ⟨Z.toList, by simp⟩
    obtain ⟨L, hL⟩ : ∃ L, L = ss.map Value.string := ⟨_, rfl⟩
    have HLE := Lib.hid hL
    have HLN := Lib.hid (show L.length = n by rw [hL, List.length_map, HN.out])
    have HZ := Lib.hid (show Z.length = L.length by have := congrArg Array.size hZ; simp [size_madeCells, Value.cells] at this; rw [HLN.out]; omega)
    clear hZ hi hz0 hz1 hz2 hL
    have hne : ∀ W, (binOp .eql 48 (.slice (some x) n cp) (.slice none 0 0)).run Try.prog W = .ok (.bool false) W := fun W => by kernel_rfl
    go_enter Try.func26, Try.ntmps26
    go_wp2_with fail
    go_loopw [4] (fun i wr => ∃ k : Nat, k ≤ n ∧ i = .int .i64 k ∧ Hid (Blk wr w.heap.size 9 (fillA L Z k)) ∧ Hid (Below w.heap.size w wr)) (fun i _ => n - (intOf i).toNat)
    case atStart => exact ⟨0, Nat.zero_le _, rfl, Lib.hid (by rw [fill_zero]; exact Blk.new _ _ _), Lib.hid ((Below.refl _ _).alloc (Nat.le_refl _) _)⟩
    case round =>
      obtain ⟨k, hk, rfl, hblk, hbel⟩ := hrel
      by_cases hlt : k < n
      · obtain ⟨bb, off, hxx, hbb, hc⟩ := HR.out.pos (by simp [HN.out]; omega)
        obtain rfl : x = _ := Option.some.inj hxx
        obtain ⟨s, hs⟩ : ∃ s, ss[k]? = some s := ⟨ss[k]'(by rw [HN.out]; exact hlt), by simp⟩
        have hcell : wr.cell? ⟨bb, off + k, none⟩ = some (.string s) := (hbel.out.cell (p := ⟨bb, off + k, none⟩) hbb).trans (hc k _ (by simp [hs]))
        obtain ⟨u, hu⟩ := fill_at hblk.out HZ.out (k := k) (by rw [HLN.out]; exact hlt)
        have hfr := hblk.out.free k
        have HS := Lib.hid (hblk.out.set k (.string s))
        have HU := Lib.hid (fill_set' L Z k (.string s) HZ.out (by rw [HLE.out]; simp [hs]))
        have hsz := hblk.out.lt
        have HB := Lib.hid (hbel.out.setCell (p := ⟨w.heap.size, k, none⟩) (Nat.le_refl _) (.string s))
        clear hc hs hxx
        go_wp2
        go_roundw
        case rel => exact ⟨k + 1, by omega, by go_num, Lib.hid (by rw [← HU.out]; exact HS.out), HB⟩
        case measure => simp [intOf]; omega
      · have hkn : k = n := by omega
        subst hkn
        have HF := Lib.hid (show Blk wr w.heap.size 9 L.toArray by have := hblk.out; rwa [fill_all L Z k (by rw [HLN.out]; exact Nat.le_refl _) (by rw [HZ.out, HLN.out]; exact Nat.le_refl _)] at this)
        go_wp2_with fail
        go_ret
        refine ⟨_, rfl, ⟨_, _, by rw [HN.out]; rfl, by rw [HN.out]; exact hle, ?_⟩, hbel.out⟩
        have := HF.out.rdS (S := New w wr) ⟨Nat.le_refl _, HF.out.lt⟩
        rw [HLE.out] at this
        simpa using this
end Go.Proofs.Ytofhjpmkpgbgiaa
