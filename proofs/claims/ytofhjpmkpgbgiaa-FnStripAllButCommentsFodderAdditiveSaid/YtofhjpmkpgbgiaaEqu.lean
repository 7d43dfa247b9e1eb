/- zzStrsEq, zzElemEq, zzFodderEq answer true on what reads alike. -/
import Derived.Test.YtofhjpmkpgbgiaaStr
namespace Go.Proofs.Ytofhjpmkpgbgiaa
open Go.RowKit
set_option linter.unusedVariables false

def Yes (w : World) (e : Ending) (w' : World) : Prop := e = .returned (.bool true) ∧ Below w.heap.size w w'

set_option maxRecDepth 100000 in
theorem strs_eq (w : World) (v1 v2 : Value) (c : Option (List ByteArray)) (h1 : ComIs w (Old w) v1 c) (h2 : ComIs w (Old w) v2 c) : Calls Try.prog 29 #[v1, v2] w (Yes w) := by
  cases c with
  | none =>
    obtain rfl : v1 = .slice none 0 0 := h1
    obtain rfl : v2 = .slice none 0 0 := h2
    have hne : ∀ W, (binOp .eql 48 (.slice none 0 0) (.slice none 0 0)).run Try.prog W = .ok (.bool true) W := fun W => by kernel_rfl
    unfold Yes
    go_enter Try.func29, Try.ntmps29
    go_wp2
    go_loop [5] (fun i => i = .int .i64 0) (fun _ => 0)
    case atStart => rfl
    case round =>
      subst hrel
      go_wp2
      go_ret
      exact ⟨rfl, Below.refl _ _⟩
  | some ss =>
    obtain ⟨x, cx, rfl, hle, hx⟩ := h1
    obtain ⟨y, cy, rfl, _, hy⟩ := h2
    generalize hn : ss.length = n at *
    have HN := Lib.hid hn
    have HX := Lib.hid hx
    have HY := Lib.hid hy
    clear hn hx hy
    have hnx : ∀ W, (binOp .eql 48 (.slice (some x) n cx) (.slice none 0 0)).run Try.prog W = .ok (.bool false) W := fun W => by kernel_rfl
    have hny : ∀ W, (binOp .eql 48 (.slice (some y) n cy) (.slice none 0 0)).run Try.prog W = .ok (.bool false) W := fun W => by kernel_rfl
    unfold Yes
    go_enter Try.func29, Try.ntmps29
    go_wp2
    go_loopw [5] (fun i wr => ∃ k : Nat, k ≤ n ∧ i = .int .i64 k ∧ Hid (Below w.heap.size w wr)) (fun i _ => n - (intOf i).toNat)
    case atStart => exact ⟨0, Nat.zero_le _, rfl, Lib.hid (Below.refl _ _)⟩
    case round =>
      obtain ⟨k, hk, rfl, hbel⟩ := hrel
      by_cases hlt : k < n
      · obtain ⟨s, hs⟩ : ∃ s, ss[k]? = some s := ⟨ss[k]'(by rw [HN.out]; exact hlt), by simp⟩
        obtain ⟨b1, o1, e1, hb1, c1⟩ := HX.out.pos (by simp [HN.out]; omega)
        obtain ⟨b2, o2, e2, hb2, c2⟩ := HY.out.pos (by simp [HN.out]; omega)
        obtain rfl : x = _ := Option.some.inj e1
        obtain rfl : y = _ := Option.some.inj e2
        have y1 : wr.cell? ⟨b1, o1 + k, none⟩ = some (.string s) := (hbel.out.cell (p := ⟨b1, o1 + k, none⟩) hb1).trans (c1 k _ (by simp [hs]))
        have y2 : wr.cell? ⟨b2, o2 + k, none⟩ = some (.string s) := (hbel.out.cell (p := ⟨b2, o2 + k, none⟩) hb2).trans (c2 k _ (by simp [hs]))
        clear c1 c2 e1 e2 hs
        go_wp2_with fail
        go_quiet (fail)
        go_wp2
        go_roundw
        case rel => exact ⟨k + 1, by omega, by go_num, Lib.hid ⟨hbel.out.os, hbel.out.tape, hbel.out.output, hbel.out.size, hbel.out.block⟩⟩
        case measure => simp [intOf]; omega
      · go_wp2
        go_ret
        exact ⟨rfl, hbel.out⟩

set_option maxHeartbeats 1600000 in
theorem elem_eq (w : World) (a1 a2 : Value) (kd bl ind : Int) (c : Option (List ByteArray)) (h1 : ComIs w (Old w) a1 c) (h2 : ComIs w (Old w) a2 c) : Calls Try.prog 27 #[.agg #[a1, .int .i64 kd, .int .i64 bl, .int .i64 ind], .agg #[a2, .int .i64 kd, .int .i64 bl, .int .i64 ind]] w (Yes w) := by
  obtain ⟨x1, l1, c1, rfl⟩ := h1.is_slice
  obtain ⟨x2, l2, c2, rfl⟩ := h2.is_slice
  have K : ∀ o1 o2, Calls Try.prog 29 #[.slice x1 l1 c1, .slice x2 l2 c2] ((w.alloc o1).alloc o2) (Yes ((w.alloc o1).alloc o2)) := fun o1 o2 => by
    have hag : Agree (Old w) w ((w.alloc o1).alloc o2) := (Agree.alloc _ w o1 fun b h => h).trans (Agree.alloc _ _ o2 fun b (h : b < w.heap.size) => by simp; omega)
    have hsub : ∀ b, Old w b → Old ((w.alloc o1).alloc o2) b := fun b (h : b < w.heap.size) => by show b < _; simp; omega
    exact strs_eq _ _ _ c ((h1.keep hag).sub hsub) ((h2.keep hag).sub hsub)
  have KK := Lib.hid K
  clear h1 h2 K
  unfold Yes
  go_enter Try.func27, Try.ntmps27
  go_wp2_with fail
  refine (KK.out _ _).mono ?_
  rintro e w1 ⟨rfl, hb⟩
  have HB := Lib.hid ((((Below.refl w.heap.size w).alloc (Nat.le_refl _) _).alloc (by simp) _).trans (hb.mono (by simp; omega)))
  clear hb KK
  go_wp2_with fail
  go_ret
  exact ⟨rfl, HB.out⟩

set_option maxRecDepth 100000 in
set_option maxHeartbeats 1600000 in
theorem fod_eq (w : World) (v1 v2 : Value) (f1 f2 : Option (List LE)) (h1 : FodV w (Old w) v1 f1) (h2 : FodV w (Old w) v2 f2) (h : f1.getD [] = f2.getD []) : Calls Try.prog 14 #[v1, v2] w (Yes w) := by
  obtain ⟨x, cx, rfl, hle, hx, _⟩ := h1.open
  obtain ⟨y, cy, rfl, _, hy, _⟩ := h2.open
  rw [← h] at hy ⊢
  clear h1 h2 h
  generalize f1.getD [] = es at *
  generalize hn : es.length = n at *
  have HN := Lib.hid hn
  have HX := Lib.hid hx
  have HY := Lib.hid hy
  clear hn hx hy
  unfold Yes
  go_enter Try.func14, Try.ntmps14
  go_wp2_with fail
  go_loopw [5] (fun i wr => ∃ k : Nat, k ≤ n ∧ i = .int .i64 k ∧ Hid (Below w.heap.size w wr)) (fun i _ => n - (intOf i).toNat)
  case atStart => exact ⟨0, Nat.zero_le _, rfl, Lib.hid (Below.refl _ _)⟩
  case round =>
    obtain ⟨k, hk, rfl, hbel⟩ := hrel
    by_cases hlt : k < n
    · obtain ⟨e, he⟩ : ∃ e, es[k]? = some e := ⟨es[k]'(by rw [HN.out]; exact hlt), by simp⟩
      have hag : Agree (Old w) w wr := Agree.of_below hbel.out fun b h => h
      have hsub : ∀ b, Old w b → Old wr b := fun b h => Nat.lt_of_lt_of_le h hbel.out.size
      obtain ⟨b1, o1, m1, e1, hb1, hc1, x0, x1, x2, x3⟩ := (HX.out.keep hag).at he
      obtain ⟨b2, o2, m2, e2, hb2, hc2, y0, y1, y2, y3⟩ := (HY.out.keep hag).at he
      subst e1 e2
      have K := Lib.hid (elem_eq wr.drew m1 m2 e.kind e.blanks e.indent e.com ((hc1.sub hsub).keep (Agree.drew _ _)) ((hc2.sub hsub).keep (Agree.drew _ _)))
      obtain ⟨q1, q2, q3, rfl⟩ := hc1.is_slice
      obtain ⟨r1, r2, r3, rfl⟩ := hc2.is_slice
      clear hc1 hc2 he hag hsub
      obtain ⟨kd, bl, ind, cm⟩ := e
      simp only at x0 x1 x2 x3 y0 y1 y2 y3
      go_wp2_with fail
      refine wp_region_tail 8 (by kernel_rfl) (by kernel_rfl) ?_
      simp only [List.take_succ_cons, List.take_zero, List.drop_succ_cons, List.drop_zero]
      repeat still_step
      refine wpStill_nil ?_
      go_wp2_with fail
      refine K.out.mono ?_
      rintro e w2 ⟨rfl, hb⟩
      have HB := Lib.hid (hbel.out.drew.trans (hb.mono hbel.out.size))
      clear hb K
      go_wp2_with fail
      go_roundw
      case rel => exact ⟨k + 1, by omega, by go_num, HB⟩
      case measure => simp [intOf]; omega
    · go_wp2
      go_ret
      exact ⟨rfl, hbel.out⟩
end Go.Proofs.Ytofhjpmkpgbgiaa
