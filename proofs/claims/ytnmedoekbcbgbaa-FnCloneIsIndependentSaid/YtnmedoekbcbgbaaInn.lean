/- zzIn and zzDistinct. -/
import Derived.Test.YtnmedoekbcbgbaaGds
import Derived.Test.YtnmedoekbcbgbaaMet
namespace Go.Proofs.Ytnmedoekbcbgbaa
open Go.RowKit
set_option linter.unusedVariables false

/-- A row of strings that can be read. -/
def Strs (w : World) (a : Option Addr) (n : Nat) (ss : List ByteArray) : Prop := ss.length = n ∧ n ≤ 9223372036854775807 ∧ Rd w w.heap.size a (ss.map Value.string)
theorem Strs.below {w w' : World} {a : Option Addr} {n : Nat} {ss : List ByteArray} (h : Strs w a n ss) (hb : Below w.heap.size w w') : Strs w' a n ss := ⟨h.1, h.2.1, (h.2.2.below hb).mono hb.size⟩
theorem Strs.drewN {w : World} {a : Option Addr} {n : Nat} {ss : List ByteArray} (h : Strs w a n ss) (k : Nat) : Strs (w.drewN k) a n ss := h
theorem Strs.take {w : World} {a : Option Addr} {n : Nat} {ss : List ByteArray} (h : Strs w a n ss) {k : Nat} (hk : k ≤ n) : Strs w a k (ss.take k) := by
  obtain ⟨h1, h2, h3⟩ := h
  refine ⟨by simp; omega, by omega, ?_⟩
  rcases h3 with h3 | ⟨b, off, ha, hb, hc⟩
  · left
    have : ss = [] := by simpa using h3
    simp [this]
  · right
    refine ⟨b, off, ha, hb, fun i u hu => hc i u ?_⟩
    rw [List.map_take, List.getElem?_take] at hu
    split at hu
    · exact hu
    · cases hu
theorem Strs.at {w : World} {a : Option Addr} {n : Nat} {ss : List ByteArray} (h : Strs w a n ss) {k : Nat} (hk : k < n) :
    ∃ s b off, ss[k]? = some s ∧ a = some ⟨b, off, none⟩ ∧ b < w.heap.size ∧ w.cell? ⟨b, off + k, none⟩ = some (.string s) := by
  obtain ⟨h1, h2, h3⟩ := h
  obtain ⟨b, off, ha, hb, hc⟩ := h3.pos (by simp; omega)
  have hs : ss[k]? = some (ss[k]'(by omega)) := by simp
  exact ⟨ss[k]'(by omega), b, off, hs, ha, hb, hc k _ (by simp [hs])⟩
theorem eqB {x y : ByteArray} (h : x ≠ y) : (x.toList == y.toList) = false := by
  rw [beq_eq_false_iff_ne]
  intro e
  rw [ByteArray.toList_eq, ByteArray.toList_eq] at e
  exact h (Go.WideShapes.bytes_inj e)
theorem mem_take_succ (ss : List ByteArray) (k : Nat) (s x : ByteArray) (h : ss[k]? = some s) : mem (ss.take (k + 1)) x = (mem (ss.take k) x || decide (s = x)) := by
  rw [List.take_add_one, h, mem_append]
  simp [mem]
theorem mem_of_at {ss : List ByteArray} {k : Nat} {s : ByteArray} (h : ss[k]? = some s) : mem ss s = true := (mem_iff _ _).2 (List.mem_of_getElem? h)

def Said (w : World) (b : Bool) (e : Ending) (w' : World) : Prop := e = .returned (.bool b) ∧ w = w'
set_option maxHeartbeats 800000 in
theorem in_any (w : World) (a : Option Addr) (n c : Nat) (ss : List ByteArray) (x : ByteArray) (h : Strs w a n ss) : Calls Try.prog 12 #[.slice a n c, .string x] w (Said w (mem ss x)) := by
  unfold Said
  have m0 := h.2.1
  have H := Lib.hid h
  clear h
  go_enter Try.func12, Try.ntmps12
  go_wp2
  go_loop [5] (fun i => ∃ k : Nat, k ≤ n ∧ i = .int .i64 k ∧ Hid (mem (ss.take k) x = false)) (fun i => n - (intOf i).toNat)
  case atStart => exact ⟨0, Nat.zero_le _, rfl, Lib.hid (by simp [mem])⟩
  case round =>
    obtain ⟨k, hk, rfl, hno⟩ := hrel
    by_cases hlt : k < n
    · obtain ⟨s, b, off, hs, rfl, hb, hcell⟩ := H.out.at hlt
      by_cases he : s = x
      · subst he
        have hm := Lib.hid (mem_of_at hs)
        clear hs
        go_wp2
        go_ret
        exact ⟨by rw [hm.out]; rfl, rfl⟩
      · have hne := eqB he
        have HN := Lib.hid (show mem (ss.take (k + 1)) x = false by rw [mem_take_succ ss k s x hs, hno.out]; simp [he])
        clear hs
        go_wp2
        go_round
        case rel => exact ⟨k + 1, by omega, by go_num, HN⟩
        case measure => simp [intOf]; omega
    · have hm := Lib.hid (show mem ss x = false by have := hno.out; rwa [List.take_of_length_le (by rw [H.out.1]; omega)] at this)
      go_wp2
      go_ret
      exact ⟨by rw [hm.out]; rfl, rfl⟩

/-- The set filled from a list. -/
def bld (ss : List ByteArray) (k : Nat) : List ByteArray := (ss.take k).foldl addS []
theorem bld_succ (ss : List ByteArray) (k : Nat) (s : ByteArray) (h : ss[k]? = some s) : bld ss (k + 1) = addS (bld ss k) s := by
  unfold bld
  rw [List.take_add_one, h]
  simp
theorem mem_addS (ks : List ByteArray) (s x : ByteArray) : mem (addS ks s) x = (mem ks x || decide (s = x)) := by
  unfold addS
  by_cases h : mem ks s = true
  · rw [if_pos h]
    by_cases e : s = x
    · subst e
      simp [h]
    · simp [e]
  · rw [if_neg h, mem_append, mem_one]
theorem mem_fold (l : List ByteArray) : ∀ (ks : List ByteArray) (x : ByteArray), mem (l.foldl addS ks) x = (mem ks x || mem l x) := by
  induction l with
  | nil => intro ks x; simp [mem]
  | cons a l ih =>
    intro ks x
    rw [List.foldl_cons, ih, mem_addS, Bool.or_assoc]
    congr 1
theorem mem_bld (ss : List ByteArray) (k : Nat) (x : ByteArray) : mem (bld ss k) x = mem (ss.take k) x := by
  unfold bld
  rw [mem_fold]
  simp [mem]
theorem bld_le (ss : List ByteArray) (k : Nat) : (bld ss k).length ≤ k := by
  induction k with
  | zero => simp [bld]
  | succ k ih =>
    rcases h : ss[k]? with _ | s
    · have : bld ss (k + 1) = bld ss k := by
        unfold bld
        rw [List.take_add_one, h]
        simp
      rw [this]
      omega
    · rw [bld_succ ss k s h]
      unfold addS
      split
      · omega
      · simp
        omega

def Numb (w : World) (m : Nat) (e : Ending) (w' : World) : Prop := e = .returned (.int .i64 m) ∧ Below w.heap.size w w'
theorem below_drewN {B : Nat} {a w : World} (h : Below B a w) (n : Nat) : Below B a (w.drewN n) := ⟨h.os, h.tape, h.output, h.size, h.block⟩
set_option maxRecDepth 100000 in
set_option maxHeartbeats 1600000 in
theorem distinct_any (w : World) (a : Option Addr) (n c : Nat) (ss : List ByteArray) (h : Strs w a n ss) (hc : n ≤ c) : Calls Try.prog 10 #[.slice a n c] w (Numb w (bld ss n).length) := by
  unfold Numb
  have m0 := h.2.1
  have H := Lib.hid h
  clear h
  go_enter Try.func10, Try.ntmps10
  go_wp2
  go_loopw [3, 4] (fun d i wr => ∃ k : Nat, k ≤ n ∧ d = .int .i64 ((bld ss k).length : Nat) ∧ i = .int .i64 k ∧ Hid (Below w.heap.size w wr)) (fun _ i _ => n - (intOf i).toNat)
  case atStart => exact ⟨0, Nat.zero_le _, by simp [bld], rfl, Lib.hid (Below.refl _ _)⟩
  case round =>
    obtain ⟨k, hk, rfl, rfl, hbel⟩ := hrel
    have hdl := bld_le ss k
    by_cases hlt : k < n
    · have HW := Lib.hid (H.out.below hbel.out)
      obtain ⟨s, b, off, hs, rfl, hb, hcell⟩ := HW.out.at hlt
      have hbs := bld_succ ss k s hs
      have hmb := mem_bld ss k s
      have hck : k ≤ c := by omega
      have K := Lib.hid fun m => in_any (wr.drewN m) (some ⟨b, off, none⟩) k c (ss.take k) s (HW.out.take hk)
      clear hs
      cases hm : mem (ss.take k) s
      · have HB := Lib.hid (show (bld ss (k + 1)).length = (bld ss k).length + 1 by rw [hbs]; unfold addS; rw [hmb, hm]; simp)
        rw [hm] at K
        clear hbs hmb hm
        generalize (bld ss k).length = j at *
        go_wp2_with fail
        go_quiet ((go_at_call 12; refine (K.out _).mono ?_; rintro e w2 ⟨rfl, rfl⟩; exact ⟨rfl, _, rfl⟩))
        go_wp2
        go_roundw
        case rel => exact ⟨k + 1, by omega, by rw [HB.out]; go_num, by go_num, Lib.hid (below_drewN hbel.out _)⟩
        case measure => simp [intOf]; omega
      · have HB := Lib.hid (show (bld ss (k + 1)).length = (bld ss k).length by rw [hbs]; unfold addS; rw [hmb, hm]; simp)
        rw [hm] at K
        clear hbs hmb hm
        generalize (bld ss k).length = j at *
        go_wp2_with fail
        go_quiet ((go_at_call 12; refine (K.out _).mono ?_; rintro e w2 ⟨rfl, rfl⟩; exact ⟨rfl, _, rfl⟩))
        go_wp2
        go_roundw
        case rel => exact ⟨k + 1, by omega, by rw [HB.out], by go_num, Lib.hid (below_drewN hbel.out _)⟩
        case measure => simp [intOf]; omega
    · obtain rfl : k = n := by omega
      go_wp2
      go_ret
      exact ⟨rfl, hbel.out⟩
end Go.Proofs.Ytnmedoekbcbgbaa
