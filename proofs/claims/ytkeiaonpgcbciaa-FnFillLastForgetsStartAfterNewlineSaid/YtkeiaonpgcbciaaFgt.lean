/- The walk of FnFillLastForgetsStartAfterNewline. -/
import Derived.Test.YtkeiaonpgcbciaaFil
namespace Go.Proofs.Ytkeiaonpgcbciaa
open Go.RowKit
set_option linter.unusedVariables false

set_option maxRecDepth 100000 in
set_option maxHeartbeats 12800000 in
theorem forgetLaw (w : World) (a b d : Option Addr) (n ca m cb q cd : Nat) (ks bs : List Int) (ss : List ByteArray) (c1 c2 sep : Bool) (a1 b1 s1 s2 : Int) (ha : IsInts w a n ca ks) (hb : IsInts w b m cb bs) (hd : IsStrs w d q cd ss) :
    Calls Try.prog 3 #[.slice a n ca, .slice b m cb, .slice d q cd, .bool c1, .bool c2, .bool sep, .int .i64 a1, .int .i64 b1, .int .i64 s1, .int .i64 s2] w fun e w' => e = .returned (.bool true) ∧ Below w.heap.size w w' := by
  have HA := Lib.hid ha
  have HB := Lib.hid hb
  have HD := Lib.hid hd
  obtain ⟨_, hlc, hcm, _, _, _⟩ := ha
  obtain ⟨_, hlc2, hcm2, _, _, _⟩ := hb
  obtain ⟨_, hlc4, hcm4, _, _, _⟩ := hd
  unfold maxLen at hcm hcm2 hcm4
  go_enter Try.func3, Try.ntmps3
  go_wp2_with fail
  refine (guard6 _ _ _ _ _ _ _ _ _ _ _ _ _ _ _ _ _ _ _ _ HA.out HB.out HD.out).mono ?_
  rintro e w1 ⟨r, rfl, rfl, hr⟩
  cases r
  · go_wp2_with fail
    go_ret
    exact ⟨rfl, Below.refl _ _⟩
  have hn := hr rfl
  clear hr
  go_wp2_with fail
  refine (bytes_any _ _ _ _ _ _ _ _ _ _ _ _ _ ks bs [] ss HA.out HB.out ⟨rfl, Nat.le_refl _, Nat.zero_le _, fun _ => rfl, by simp, .inl rfl⟩ HD.out).mono ?_
  rintro e w1 ⟨t, rfl, rfl⟩
  by_cases ht : 1048576 < t
  · go_wp2_with fail
    go_ret
    exact ⟨rfl, Below.refl _ _⟩
  by_cases hm : m = n
  rotate_left
  · have hm2 : ((m : Int) != (n : Int)) = true := by simp; omega
    go_wp2_with fail
    go_ret
    exact ⟨rfl, Below.refl _ _⟩
  by_cases hq : q = n
  rotate_left
  · have hm2 : ((q : Int) != (n : Int)) = true := by simp; omega
    subst hm
    go_wp2_with fail
    go_ret
    exact ⟨rfl, Below.refl _ _⟩
  subst hm
  subst hq
  go_wp2_with fail
  refine (hasnl_any _ _ _ _ _ HA.out hn).mono ?_
  rintro e w1 ⟨r, rfl, rfl, hr⟩
  cases r
  · go_wp2_with fail
    go_ret
    exact ⟨rfl, Below.refl _ _⟩
  have HNL := Lib.hid (hr rfl)
  clear hr
  go_wp2_with fail
  refine (cloneI_any _ _ _ _ _ HA.out (by omega)).mono ?_
  rintro e w1 ⟨a', rfl, i1, bel1⟩
  have I1 := Lib.hid i1
  have J2 := Lib.hid (HB.out.below bel1)
  have J4 := Lib.hid (HD.out.below bel1)
  have Z1 := bel1.size
  have B1 := Lib.hid bel1
  clear i1 bel1 HA HB HD
  go_wp2_with fail
  refine (cloneI_any _ _ _ _ _ J2.out (by omega)).mono ?_
  rintro e w2 ⟨b', rfl, i1, bel1⟩
  have I1 := Lib.hid (I1.out.below bel1)
  have I2 := Lib.hid i1
  have J4 := Lib.hid (J4.out.below bel1)
  have B1 := Lib.hid (B1.out.trans (bel1.mono Z1))
  have Z1 := Nat.le_trans Z1 bel1.size
  clear i1 bel1 J2
  go_wp2_with fail
  refine (cloneS_any _ _ _ _ _ J4.out (by omega)).mono ?_
  rintro e w3 ⟨d', rfl, i1, bel1⟩
  have I1 := Lib.hid (I1.out.below bel1)
  have I2 := Lib.hid (I2.out.below bel1)
  have I4 := Lib.hid i1
  have B1 := Lib.hid (B1.out.trans (bel1.mono Z1))
  have Z1 := Nat.le_trans Z1 bel1.size
  clear i1 bel1 J4
  obtain ⟨i0, hi, hz0, hz1, hz2⟩ := info_parts Try.inf3
  have hmk := fun W => run_make_n (P := Try.prog) 22 3 i0 _ Try.underlying22 hi hz0 .i64 .i64 q q (Nat.le_refl _) (by rw [hz2]; omega) (by omega) W
  rw [hz1, Nat.mul_one] at hmk
  have hmz : madeCells (Value.int .i64 0).cells q = ((List.replicate q (0 : Int)).map (Value.int .i64)).toArray := by
    have := toList_madeCells_one (.int .i64 0) q
    have e : (Value.int .i64 0).cells = #[.int .i64 0] := by simp [Value.cells]
    rw [e]
    apply Array.toList_inj.1
    rw [this]
    simp
  rw [hmz] at hmk
  clear hmz hi hz0 hz1 hz2
  generalize hZ : ((List.replicate q (0 : Int)).map (Value.int .i64)).toArray = Z at hmk
  have HZ := Lib.hid hZ
  clear hZ
  have BA := (Below.refl w3.heap.size w3).alloc (Nat.le_refl _) (.cells Z 3)
  have I1 := Lib.hid (I1.out.below BA)
  have I2 := Lib.hid (I2.out.below BA)
  have I4 := Lib.hid (I4.out.below BA)
  have NB := Blk.new w3 3 Z
  have I3 : Hid (IsInts (w3.alloc (.cells Z 3)) (some ⟨w3.heap.size, 0, none⟩) q q (List.replicate q 0)) :=
    Lib.hid ⟨by simp, Nat.le_refl _, by unfold maxLen; omega, (by intro h; cases h), (by intro z hz; rw [(List.mem_replicate.1 hz).2]; decide), by rw [← show Z.toList = (List.replicate q (0 : Int)).map (Value.int .i64) by rw [← HZ.out]]; exact NB.rd _ NB.lt⟩
  have B1 := Lib.hid (B1.out.trans (BA.mono Z1))
  have Z1 := Nat.le_trans Z1 BA.size
  clear NB BA
  go_wp2_with fail
  generalize w3.alloc (.cells Z 3) = w4 at *
  refine (build_any _ _ _ _ _ _ _ _ _ _ _ _ _ _ I1.out I2.out I3.out I4.out (by omega)).mono ?_
  rintro e w5 ⟨rfl, ⟨es, hbu, k1⟩, bel1⟩
  have I1 := Lib.hid (I1.out.below bel1)
  have I2 := Lib.hid (I2.out.below bel1)
  have I3 := Lib.hid (I3.out.below bel1)
  have I4 := Lib.hid (I4.out.below bel1)
  have B1 := Lib.hid (B1.out.trans (bel1.mono Z1))
  have Z5 := Nat.le_trans Z1 bel1.size
  have hlt := k1.lt
  have BU := Lib.hid hbu
  have K1 := Lib.hid k1
  clear bel1 hbu k1
  generalize w4.heap.size = g at *
  go_wp2_with fail
  refine (build_any _ _ _ _ _ _ _ _ _ _ _ _ _ _ I1.out I2.out I3.out I4.out (by omega)).mono ?_
  rintro e w6 ⟨rfl, ⟨es2, hbu, k1⟩, bel1⟩
  have BU1 := Lib.hid (BU.out.under bel1)
  have K1 := Lib.hid (K1.out.under bel1)
  have B1 := Lib.hid (B1.out.trans (bel1.mono Z5))
  have Z6 := Nat.le_trans Z5 bel1.size
  have hlt2 := k1.lt
  have BU2 := Lib.hid hbu
  have K2 := Lib.hid k1
  have HKS := Lib.hid I1.out.1
  clear bel1 hbu k1 I1 I2 I3 I4 BU
  generalize w5.heap.size = h at *
  go_wp2_with fail
  refine (zfill_any _ g q ks _ _ ss es c1 sep a1 b1 s1 hn HKS.out BU1.out K1.out).mono ?_
  rintro e w7 ⟨rfl, gr⟩
  have BU2 := Lib.hid (BU2.out.keep fun b hb hl => gr.block b hl (by simp; omega))
  have K2 := Lib.hid (K2.out.grown gr (by simp; omega))
  have B1 := Lib.hid (B1.out.grown gr Z6 (by intro q hq; injection hq with hq; omega))
  have Z7 := Nat.le_trans Z6 gr.size
  clear gr BU1 K1
  go_wp2_with fail
  refine (zfill_any _ h q ks _ _ ss es2 c2 sep a1 b1 s2 hn HKS.out BU2.out K2.out).mono ?_
  rintro e w8 ⟨rfl, gr⟩
  have B1 := Lib.hid (B1.out.grown gr Z7 (by intro q hq; injection hq with hq; omega))
  clear gr BU2 K2
  have E : Hid (colC (ks.map kindI) a1 b1 ss (s1, c1) q = colC (ks.map kindI) a1 b1 ss (s2, c2) q) := by
    obtain ⟨j, hj, hk⟩ := HNL.out
    exact Lib.hid (colC_forgets _ _ _ _ _ _ j q hj (by simpa [List.getD, HKS.out, hj] using hk))
  rw [E.out]
  go_wp2_with fail
  go_ret
  exact ⟨by simp, B1.out⟩
end Go.Proofs.Ytkeiaonpgcbciaa
