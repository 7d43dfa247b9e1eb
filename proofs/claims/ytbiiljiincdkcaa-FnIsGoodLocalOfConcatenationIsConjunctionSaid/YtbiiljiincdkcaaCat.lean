/- The walk of the law on the local of a concatenation. -/
import Derived.Test.YtbiiljiincdkcaaGlw
import Derived.Laws.CopyOwn
namespace Go.Proofs.Ytbiiljiincdkcaa
open Go.RowKit
set_option linter.unusedVariables false

theorem Try.inf3 : (Try.prog.info? 3).map (fun i => (i.zero, i.size, i.bytes)) = some (some (.int .i64 0), 1, 8) := by kernel_rfl
theorem Try.siz3 : (Try.prog.info? 3).map (·.size) = some 1 := by kernel_rfl
theorem of_hid {p : Prop} (h : Hid p) : p := h.out
theorem guard9 (a b : Option Addr) (n cn m cm : Nat) (w : World) (hn : n ≤ 65536) (hm : m ≤ 65536) : Calls Try.prog 9 #[.slice a n cn, .slice b m cm] w fun e w' => e = .returned (.bool true) ∧ w = w' := by
  have d1 : decide ((1048576 : Int) < n) = false := by simp; omega
  have d2 : decide ((1048576 : Int) < m) = false := by simp; omega
  have d3 : decide ((1048576 : Int) < n + m) = false := by simp; omega
  go_enter Try.func9, Try.ntmps9
  go_wp2
  go_ret
  exact ⟨rfl, rfl⟩
theorem rd_hpos {w : World} {B : Nat} {a : Option Addr} {xs : List Value} (h : Rd w B a xs) (hl : 0 < xs.length) : ∃ ad, a = some ad ∧ ∀ j v, xs[j]? = some v → w.cell? (ad.add j) = some v := by
  obtain ⟨b, off, rfl, hb, hc⟩ := h.pos hl
  exact ⟨_, rfl, fun j v hv => by rw [Go.WideShapes.add_plain]; exact hc j v hv⟩
theorem Loc.zero (w : World) (cs : Array Value) (t : TypeId) (h : cs[0]? = some (.slice none 0 0)) : Loc (w.alloc (.cells cs t)) w.heap.size [] :=
  ⟨none, 0, [], by rw [(Blk.new w t cs).cell]; exact h, by simp, .inl rfl, by simp, rfl, fun i b g hb => by simp at hb⟩

theorem IsInts.below {w w' : World} {a : Option Addr} {n c : Nat} {zs : List Int} (h : IsInts w a n c zs) (hb : Below w.heap.size w w') : IsInts w' a n c zs :=
  ⟨h.1, h.2.1, h.2.2.1, h.2.2.2.1, h.2.2.2.2.1, (h.2.2.2.2.2.below hb).mono hb.size⟩
theorem ints_cat {w0 w : World} {g n cn m cm : Nat} {a b : Option Addr} {zs ys : List Int} {X Y Z : List Value} (hg : w.heap[g]? = some (.cells (splice (splice Z 0 X) n Y).toArray 3 (0, 0))) (hX : X = zs.map (Value.int .i64)) (hY : Y = ys.map (Value.int .i64))
    (hXn : X.length = n) (hYm : Y.length = m) (hZ : Z.length = n + m) (ha : IsInts w0 a n cn zs) (hb : IsInts w0 b m cm ys) (h1 : n ≤ 65536) (h2 : m ≤ 65536) : IsInts w (some ⟨g, 0, none⟩) (n + m) (n + m) (zs ++ ys) := by
  have e : splice (splice Z 0 X) n Y = (zs ++ ys).map (Value.int .i64) := by
    rw [List.map_append, ← hX, ← hY]
    have h : Z.drop X.length = [] ∨ True := .inr trivial
    have e1 : splice Z 0 X = X ++ Z.drop n := by simp [splice, hXn]
    have e2 : (X ++ Z.drop n).drop (n + Y.length) = [] := List.drop_eq_nil_of_le (by simp; omega)
    rw [e1, splice, e2, List.take_append_of_le_length (by omega), List.take_of_length_le (by omega), List.append_nil]
  rw [e] at hg
  have hB : Blk w g 3 ((zs ++ ys).map (Value.int .i64)).toArray := hg
  refine ⟨by rw [List.length_append, ha.1, hb.1], Nat.le_refl _, by unfold maxLen; omega, (by intro h; cases h), ?_, ?_⟩
  · intro z hz
    rcases List.mem_append.1 hz with h | h
    · exact ha.2.2.2.2.1 z h
    · exact hb.2.2.2.2.1 z h
  · have := hB.rd w.heap.size hB.lt
    simpa using this

set_option maxRecDepth 100000 in
set_option maxHeartbeats 1600000 in
theorem law22 (a : Option Addr) (n cn : Nat) (zs : List Int) (b : Option Addr) (m cm : Nat) (ys : List Int) (w : World) (ha : IsInts w a n cn zs) (hb : IsInts w b m cm ys) :
    Calls Try.prog 4 #[.slice a n cn, .slice b m cm] w fun e w' => e = .returned (.bool true) ∧ Below w.heap.size w w' := by
  have n63 : n ≤ 9223372036854775807 := by have := ha.2.1; have := ha.2.2.1; unfold maxLen at this; omega
  have m63 : m ≤ 9223372036854775807 := by have := hb.2.1; have := hb.2.2.1; unfold maxLen at this; omega
  have HA := Lib.hid ha
  have HB := Lib.hid hb
  clear ha hb
  by_cases h0 : n ≤ 65536 ∧ m ≤ 65536
  rotate_left
  · go_enter Try.func4, Try.ntmps4
    go_wp2_with (first | (go_at_call 9; go_in) | fail)
    all_goals first | (go_ret; exact ⟨rfl, Below.refl _ _⟩) | (exfalso; omega)
  obtain ⟨h1, h2⟩ := h0
  have d1 : decide ((65536 : Int) < n) = false := by simp; omega
  have d2 : decide ((65536 : Int) < m) = false := by simp; omega
  obtain ⟨i0, hi, hz0, hz1, hz2⟩ := info_parts Try.inf3
  have hmk : ∀ W, (Instr.makeSlice 22 (.int .i64 ((n : Int) + m)) (.int .i64 ((n : Int) + m))).run Try.prog W = .ok (.slice (some ⟨W.heap.size, 0, none⟩) (n + m) (n + m)) (W.alloc (.cells (madeCells (Value.int .i64 0).cells ((n + m) * i0.size)) 3)) := fun W => by
    have := run_make_n (P := Try.prog) 22 3 i0 _ Try.underlying22 hi hz0 .i64 .i64 (n + m) (n + m) (Nat.le_refl _) (by rw [hz2]; omega) (by omega) W
    rwa [Int.natCast_add] at this
  rw [hz1, Nat.mul_one] at hmk
  generalize hZ : madeCells (Value.int .i64 0).cells (n + m) = Z at hmk
  obtain ⟨Z, rfl⟩ : ∃ L : List Value, Z = L.toArray := ⟨Z.toList, by simp⟩
  have HZ := Lib.hid (show Z.length = n + m by have := congrArg Array.size hZ; simp [size_madeCells, Value.cells] at this; omega)
  obtain ⟨X, hX⟩ : ∃ X, X = zs.map (Value.int .i64) := ⟨_, rfl⟩
  obtain ⟨Y, hY⟩ : ∃ Y, Y = ys.map (Value.int .i64) := ⟨_, rfl⟩
  have hXn := Lib.hid (show X.length = n by rw [hX]; simp; exact HA.out.1)
  have hYm := Lib.hid (show Y.length = m by rw [hY]; simp; exact HB.out.1)
  have HX := Lib.hid hX
  have HY := Lib.hid hY
  clear hX hY hi hz0 hz1 hz2 hZ
  go_enter Try.func4, Try.ntmps4
  go_wp2_with (first | (go_at_call 9; refine (guard9 _ _ _ _ _ _ _ h1 h2).mono ?_; rintro e w1 ⟨rfl, rfl⟩) | (with_reducible show wpList _ _ _ (⟨some 34, _, _, _, _, _⟩ :: _) _ _; refine of_hid ?_) | fail)
  refine Lib.hid ?_
  refine wpList_copy_splice (o := ⟨some 34, _, _, _, _, _⟩) rfl (.tmp 32) (.tmp 33) 22 22 rfl 3 Try.underlying22 Try.siz3 _ _ _ _ _ _ rfl rfl w.heap.size 0 Z 3 (Blk.new w _ _) X (by rw [hXn.out]; exact (Nat.min_eq_left (Nat.le_add_right _ _)).symm) (fun h => ⟨rfl, rd_hpos (HX.out ▸ (HA.out.2.2.2.2.2).below ((Below.refl _ _).alloc (Nat.le_refl _) _)) h⟩) (by rw [hXn.out, HZ.out]; omega) (by rw [HX.out]; intro v hv; obtain ⟨z, _, rfl⟩ := List.mem_map.1 hv; rfl) w.heap.size w ((Below.refl _ _).alloc (Nat.le_refl _) _) (Nat.le_refl _) ?_
  intro w1 HG1 hb1
  have HB1 := Lib.hid hb1
  clear hb1
  go_wp2_with (first | (with_reducible show wpList _ _ _ (⟨some 40, _, _, _, _, _⟩ :: _) _ _; refine of_hid ?_) | fail)
  all_goals
    try subst h
    refine Lib.hid ?_
    refine wpList_copy_splice (o := ⟨some 40, _, _, _, _, _⟩) rfl (.tmp 38) (.tmp 39) 22 22 rfl 3 Try.underlying22 Try.siz3 _ _ _ _ _ _ rfl rfl w.heap.size n (splice Z 0 X) 3 HG1.out Y (by rw [hYm.out]; exact (Nat.min_self _).symm) (fun h => ⟨by first | rfl | (exfalso; rw [hYm.out] at h; omega), rd_hpos (HY.out ▸ (HB.out.2.2.2.2.2).below HB1.out) h⟩) (by rw [hYm.out, length_splice _ _ _ (by rw [hXn.out, HZ.out]; omega), HZ.out]; exact Nat.le_refl _) (by rw [HY.out]; intro v hv; obtain ⟨z, _, rfl⟩ := List.mem_map.1 hv; rfl) w.heap.size w HB1.out (Nat.le_refl _) ?_
    intro w2 HG2 hb2
    have HB2 := Lib.hid hb2
    have HAB := Lib.hid (ints_cat HG2.out HX.out HY.out hXn.out hYm.out HZ.out HA.out HB.out h1 h2)
    have HA2 := Lib.hid (HA.out.below hb2)
    have HBB2 := Lib.hid (HB.out.below hb2)
    clear hb2 HG2 HG1 HB1 HA HB HX HY hXn hYm HZ
    go_wp2_with fail
    refine (build_any _ _ _ _ _ HA2.out (by omega)).mono ?_
    rintro e w3 ⟨L1, rfl, hL1, hl1, hb⟩
    have HL1 := Lib.hid hL1
    have HB3 := Lib.hid (HB2.out.trans (hb.mono HB2.out.size))
    have HBB3 := Lib.hid (HBB2.out.below hb)
    have HAB3 := Lib.hid (HAB.out.below hb)
    clear hL1 hb HB2 HBB2 HAB
    go_wp2_with fail
    refine (build_any _ _ _ _ _ HBB3.out (by omega)).mono ?_
    rintro e w4 ⟨L2, rfl, hL2, hl2, hb⟩
    have HL2 := Lib.hid hL2
    have HL1' := Lib.hid (HL1.out.below hb)
    have HB4 := Lib.hid (HB3.out.trans (hb.mono HB3.out.size))
    have HAB4 := Lib.hid (HAB3.out.below hb)
    clear hL2 hb HB3 HBB3 HAB3 HL1
    go_wp2_with fail
    refine (build_any _ _ _ _ _ HAB4.out (by omega)).mono ?_
    rintro e w5 ⟨L3, rfl, hL3, hl3, hb⟩
    have HL3 := Lib.hid hL3
    have HL1 := Lib.hid (HL1'.out.below hb)
    have HL2' := Lib.hid (HL2.out.below hb)
    have HB5 := Lib.hid (HB4.out.trans (hb.mono HB4.out.size))
    clear hL3 hb HB4 HAB4 HL1' HL2
    have K : ∀ cs t, cs[0]? = some (.slice none 0 0) → Calls Try.prog 8 #[.pointer (some ⟨w5.heap.size, 0, none⟩)] (w5.alloc (.cells cs t)) fun e w' => e = .returned (.bool true) ∧ Below (w5.alloc (.cells cs t)).heap.size (w5.alloc (.cells cs t)) w' := fun cs t h => zgood_any _ _ [] (Loc.zero w5 cs t h)
    have KK := Lib.hid K
    clear K
    have HR : Hid (((zs ++ ys).map goodC).all id = ((zs.map goodC).all id && (ys.map goodC).all id)) := Lib.hid (by simp)
    go_wp2_with fail
    refine (KK.out _ _ rfl).mono ?_
    rintro e w6 ⟨rfl, hb⟩
    have hb' := bel_new HB5.out hb HB5.out.size
    have hb5 : Below w5.heap.size w5 w6 := (bel_new (Below.refl _ w5) hb (Nat.le_refl _)).1
    have HB6 := Lib.hid hb'.1
    have HL1' := Lib.hid (HL1.out.below hb5)
    have HL2 := Lib.hid (HL2'.out.below hb5)
    have HL3' := Lib.hid (HL3.out.below hb5)
    clear hb hb' hb5 HB5 KK HL1 HL2' HL3
    have K1 := zgood_any w6 L1 _ HL1'.out
    generalize (zs.map goodC).all id = r1 at *
    have KK1 := Lib.hid K1
    clear K1
    go_wp2_with fail
    refine KK1.out.mono ?_
    rintro e w7 ⟨rfl, hb⟩
    have HB7 := Lib.hid (HB6.out.trans (hb.mono HB6.out.size))
    have HL2' := Lib.hid (HL2.out.below hb)
    have HL3 := Lib.hid (HL3'.out.below hb)
    clear hb KK1 HB6 HL2 HL3' HL1'
    have K2 := zgood_any w7 L2 _ HL2'.out
    generalize (ys.map goodC).all id = r2 at *
    have KK2 := Lib.hid K2
    clear K2
    go_wp2_with fail
    refine KK2.out.mono ?_
    rintro e w8 ⟨rfl, hb⟩
    have HB8 := Lib.hid (HB7.out.trans (hb.mono HB7.out.size))
    have HL3' := Lib.hid (HL3.out.below hb)
    clear hb KK2 HB7 HL3 HL2'
    have K3 := zgood_any w8 L3 _ HL3'.out
    rw [HR.out] at K3
    have KK3 := Lib.hid K3
    clear K3 HR
    cases r1 <;> cases r2
    all_goals
      go_wp2_with fail
      refine KK3.out.mono ?_
      rintro e w9 ⟨rfl, hb⟩
      have HB9 := Lib.hid (HB8.out.trans (hb.mono HB8.out.size))
      clear hb KK3 HB8 HL3'
      go_wp2_with fail
      go_ret
      exact ⟨rfl, HB9.out⟩
end Go.Proofs.Ytbiiljiincdkcaa
