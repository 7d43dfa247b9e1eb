/- The walks of the laws on isGoodLocal and goodLocalOrNull. -/
import Derived.Test.YtbiiljiincdkcaaBlc
import Derived.LaidEqlPtr
namespace Go.Proofs.Ytbiiljiincdkcaa
open Go.RowKit
set_option linter.unusedVariables false

theorem zgood_any (w : World) (L : Nat) (gs : List Bool) (h : Loc w L gs) :
    Calls Try.prog 8 #[.pointer (some ⟨L, 0, none⟩)] w fun e w' => e = .returned (.bool (gs.all id)) ∧ Below w.heap.size w w' := by
  go_enter Try.func8, Try.ntmps8
  go_wp2_with fail
  refine (good_any _ _ _ h).mono ?_
  rintro e w1 ⟨rfl, hb⟩
  have HB := Lib.hid hb
  clear hb
  go_wp2_with fail
  go_ret
  exact ⟨rfl, HB.out⟩

theorem law7 (a : Option Addr) (n cn : Nat) (zs : List Int) (w : World) (ha : IsInts w a n cn zs) :
    Calls Try.prog 3 #[.slice a n cn] w fun e w' => e = .returned (.bool true) ∧ Below w.heap.size w w' := by
  have n63 : n ≤ 9223372036854775807 := by have := ha.2.1; have := ha.2.2.1; unfold maxLen at this; omega
  have HA := Lib.hid ha
  clear ha
  by_cases h0 : n ≤ 131072
  rotate_left
  · go_enter Try.func3, Try.ntmps3
    go_wp2_with (first | (go_at_call 6; go_in) | fail)
    all_goals first | (go_ret; exact ⟨rfl, Below.refl _ _⟩) | (exfalso; omega)
  have d1 : decide ((1048576 : Int) < n) = false := by simp; omega
  have d2 : decide ((131072 : Int) < n) = false := by simp; omega
  go_enter Try.func3, Try.ntmps3
  go_wp2_with (first | (go_at_call 6; go_in) | fail)
  refine (build_any _ _ _ _ _ HA.out h0).mono ?_
  rintro e w1 ⟨L, rfl, hL, hL1, hb⟩
  have HL := Lib.hid hL
  have HB := Lib.hid hb
  clear hL hb
  have K := zgood_any w1 L _ HL.out
  generalize (zs.map goodC).all id = r at *
  have KK := Lib.hid K
  clear K
  go_wp2_with fail
  refine KK.out.mono ?_
  rintro e w2 ⟨rfl, hb⟩
  have HB2 := Lib.hid (HB.out.trans (hb.mono HB.out.size))
  clear hb KK
  go_wp2_with fail
  go_ret
  exact ⟨by simp, HB2.out⟩

theorem ptr_same (W : World) (a : Addr) : (binOp .eql 24 (.pointer (some a)) (.pointer (some a))).run Try.prog W = .ok (.bool true) W := by
  obtain ⟨j, hj⟩ : ∃ j, Try.prog.info? 47 = some j := Option.isSome_iff_exists.1 (by kernel_rfl)
  exact run_eql_ptr_same (P := Try.prog) W a Try.underlying24 hj
theorem gln_none (w : World) (T : TypeId) (p : Option Addr) (h : T = 58 ∨ T = 62) : Calls Try.prog 18 #[.iface T (.pointer p)] w fun e w' => e = .returned (.pointer none) ∧ w = w' := by
  have k1 : ∀ (p : Option Addr) (w : World), (Instr.typeAssert (.iface 58 (.pointer p)) 32 24 true).run Try.prog w = .ok (.tuple #[.pointer none, .bool false]) w := fun p w => by kernel_rfl
  have k2 : ∀ (p : Option Addr) (w : World), (Instr.typeAssert (.iface 62 (.pointer p)) 32 24 true).run Try.prog w = .ok (.tuple #[.pointer none, .bool false]) w := fun p w => by kernel_rfl
  rcases h with rfl | rfl
  all_goals
    go_enter Try.func18, Try.ntmps18
    go_wp2_with fail
    go_ret
    exact ⟨rfl, rfl⟩
theorem gln_nil (w : World) : Calls Try.prog 18 #[.nilIface] w fun e w' => e = .returned (.pointer none) ∧ w = w' := by
  have k1 : ∀ (w : World), (Instr.typeAssert .nilIface 32 24 true).run Try.prog w = .ok (.tuple #[.pointer none, .bool false]) w := fun w => by kernel_rfl
  go_enter Try.func18, Try.ntmps18
  go_wp2_with fail
  go_ret
  exact ⟨rfl, rfl⟩
theorem gln_loc (w : World) (L : Nat) (gs : List Bool) (h : Loc w L gs) : Calls Try.prog 18 #[.iface 24 (.pointer (some ⟨L, 0, none⟩))] w fun e w' => e = .returned (.pointer (if gs.all id then some ⟨L, 0, none⟩ else none)) ∧ Below w.heap.size w w' := by
  have k1 : ∀ (p : Option Addr) (w : World), (Instr.typeAssert (.iface 24 (.pointer p)) 32 24 true).run Try.prog w = .ok (.tuple #[.pointer p, .bool true]) w := fun p w => by kernel_rfl
  have H := Lib.hid h
  clear h
  have K := Lib.hid (good_any w L gs H.out)
  cases hr : gs.all id
  · rw [hr] at K
    go_enter Try.func18, Try.ntmps18
    go_wp2_with fail
    refine K.out.mono ?_
    rintro e w1 ⟨rfl, hb⟩
    have HB := Lib.hid hb
    clear hb
    go_wp2_with fail
    go_ret
    exact ⟨rfl, HB.out⟩
  · rw [hr] at K
    go_enter Try.func18, Try.ntmps18
    go_wp2_with fail
    refine K.out.mono ?_
    rintro e w1 ⟨rfl, hb⟩
    have HB := Lib.hid hb
    clear hb
    go_wp2_with fail
    go_ret
    exact ⟨rfl, HB.out⟩

theorem zgln_loc (w : World) (L : Nat) (gs : List Bool) (h : Loc w L gs) : Calls Try.prog 14 #[.pointer (some ⟨L, 0, none⟩)] w fun e w' => e = .returned (.pointer (if gs.all id then some ⟨L, 0, none⟩ else none)) ∧ Below w.heap.size w w' := by
  have K := gln_loc w L gs h
  generalize (if gs.all id then some (⟨L, 0, none⟩ : Addr) else none) = r at *
  have KK := Lib.hid K
  clear K h
  go_enter Try.func14, Try.ntmps14
  go_wp2_with fail
  refine KK.out.mono ?_
  rintro e w1 ⟨rfl, hb⟩
  have HB := Lib.hid hb
  clear hb KK
  go_wp2_with fail
  go_ret
  exact ⟨rfl, HB.out⟩
theorem zgln1 (w : World) : Calls Try.prog 11 #[] w fun e w' => e = .returned (.pointer none) ∧ Below w.heap.size w w' := by
  go_enter Try.func11, Try.ntmps11
  go_wp2_with (go_at_call 18; refine (gln_none _ _ _ (.inl rfl)).mono ?_; rintro e w1 ⟨rfl, rfl⟩)
  go_ret
  exact ⟨rfl, (Below.refl _ _).alloc (Nat.le_refl _) _⟩
theorem zgln2 (w : World) : Calls Try.prog 12 #[] w fun e w' => e = .returned (.pointer none) ∧ Below w.heap.size w w' := by
  go_enter Try.func12, Try.ntmps12
  go_wp2_with (go_at_call 18; refine (gln_none _ _ _ (.inr rfl)).mono ?_; rintro e w1 ⟨rfl, rfl⟩)
  go_ret
  exact ⟨rfl, (Below.refl _ _).alloc (Nat.le_refl _) _⟩
theorem zgln3 (w : World) : Calls Try.prog 13 #[] w fun e w' => e = .returned (.pointer none) ∧ Below w.heap.size w w' := by
  go_enter Try.func13, Try.ntmps13
  go_wp2_with (go_at_call 18; refine (gln_nil _).mono ?_; rintro e w1 ⟨rfl, rfl⟩)
  go_ret
  exact ⟨rfl, Below.refl _ _⟩

set_option maxHeartbeats 800000 in
theorem law29 (a : Option Addr) (n cn : Nat) (zs : List Int) (s : Int) (w : World) (ha : IsInts w a n cn zs) :
    Calls Try.prog 5 #[.slice a n cn, .int .i64 s] w fun e w' => e = .returned (.bool true) ∧ Below w.heap.size w w' := by
  have n63 : n ≤ 9223372036854775807 := by have := ha.2.1; have := ha.2.2.1; unfold maxLen at this; omega
  have HA := Lib.hid ha
  clear ha
  by_cases h0 : n ≤ 131072
  rotate_left
  · go_enter Try.func5, Try.ntmps5
    go_wp2_with (first | (go_at_call 10; go_in) | fail)
    all_goals first | (go_ret; exact ⟨rfl, Below.refl _ _⟩) | (exfalso; omega)
  have d1 : decide ((1048576 : Int) < n) = false := by simp; omega
  have d2 : decide ((131072 : Int) < n) = false := by simp; omega
  have b1 := Int.tmod_lt_of_pos s (show (0 : Int) < 4 by decide)
  have b2 := Int.lt_tmod_of_pos s (show (0 : Int) < 4 by decide)
  have rest : ∀ (t : Int) (w1 : World), True := fun _ _ => trivial
  clear rest
  have hcase : s.tmod 4 = -3 ∨ s.tmod 4 = -2 ∨ s.tmod 4 = -1 ∨ s.tmod 4 = 0 ∨ s.tmod 4 = 1 ∨ s.tmod 4 = 2 ∨ s.tmod 4 = 3 := by omega
  clear b1 b2
  rcases hcase with h | h | h | h | h | h | h
  case inr.inr.inr.inl =>
    go_enter Try.func5, Try.ntmps5
    go_wp2_with (first | (go_at_call 10; go_in) | fail)
    refine (build_any _ _ _ _ _ HA.out h0).mono ?_
    rintro e w1 ⟨L, rfl, hL, hL1, hb⟩
    have HL := Lib.hid hL
    have HB := Lib.hid hb
    have K := zgln_loc w1 L _ hL
    clear hL hb
    generalize (zs.map goodC).all id = r at *
    cases r
    · simp only [Bool.false_eq_true, if_false] at K
      have KK := Lib.hid K
      clear K
      go_wp2_with fail
      refine KK.out.mono ?_
      rintro e w2 ⟨rfl, hb⟩
      have HB2 := Lib.hid (HB.out.trans (hb.mono HB.out.size))
      clear hb KK
      go_wp2_with fail
      go_ret
      exact ⟨rfl, HB2.out⟩
    · simp only [if_true] at K
      have np := fun (W : World) => ptr_same W ⟨L, 0, none⟩
      have KK := Lib.hid K
      clear K
      go_wp2_with fail
      refine KK.out.mono ?_
      rintro e w2 ⟨rfl, hb⟩
      have HB2 := Lib.hid (HB.out.trans (hb.mono HB.out.size))
      clear hb KK
      go_wp2_with fail
      go_ret
      exact ⟨rfl, HB2.out⟩
  all_goals
    go_enter Try.func5, Try.ntmps5
    go_wp2_with (first | (go_at_call 10; go_in) | (go_at_call 11; refine (zgln1 _).mono ?_; rintro e w1 ⟨rfl, hb⟩) | (go_at_call 12; refine (zgln2 _).mono ?_; rintro e w1 ⟨rfl, hb⟩) | (go_at_call 13; refine (zgln3 _).mono ?_; rintro e w1 ⟨rfl, hb⟩) | fail)
    go_ret
    exact ⟨rfl, by assumption⟩
end Go.Proofs.Ytbiiljiincdkcaa
