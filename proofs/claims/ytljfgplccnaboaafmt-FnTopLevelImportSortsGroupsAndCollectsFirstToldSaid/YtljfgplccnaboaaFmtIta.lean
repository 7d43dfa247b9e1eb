/- zzItoa gives the decimal numeral of every int. -/
import Derived.Test.YtljfgplccnaboaaFmtCom
import Derived.Lib.ItoaNum
import Derived.Lib.ItoaMem
import Derived.Lib.ItoaLen
import Derived.Laws.BytesArg
import Derived.PlainAid
namespace Go.Proofs.YtljfgplccnaboaaFmt
open Go.RowKit Go.Lib
set_option linter.unusedVariables false

/-- The digits of u; none for 0. -/
def decP (u : Nat) : List UInt8 := if u = 0 then [] else decDigits u
theorem decP_step (u : Nat) (h : 0 < u) : decP u = decP (u / 10) ++ [UInt8.ofNat (48 + u % 10)] := by
  unfold decP
  rw [if_neg (by omega), decDigits]
  by_cases h1 : u < 10
  · rw [dif_pos h1, if_pos (by omega), Nat.mod_eq_of_lt h1]
    rfl
  · rw [dif_neg h1, if_neg (by omega)]
def u8s (D : List Int) : List UInt8 := D.map fun n => UInt8.ofNat n.toNat
/-- The buffer: its last places hold D. -/
def bufC (q : Nat) (D : List Int) : Array Value := ((List.replicate q (0 : Int) ++ D).map (Value.int .u8)).toArray
theorem bufC_set (q : Nat) (D : List Int) (d : Int) : (bufC (q + 1) D).setIfInBounds q (.int .u8 d) = bufC q (d :: D) := by
  unfold bufC
  rw [List.setIfInBounds_toArray]
  congr 1
  rw [List.replicate_succ', List.append_assoc, List.map_append, List.map_append, List.set_append_right _ _ (by simp)]
  simp
theorem bufC_at (q : Nat) (D : List Int) (i : Nat) (hi : i < q + D.length) : (bufC q D)[i]? = some (.int .u8 ((List.replicate q (0 : Int) ++ D).getD i 0)) := by
  unfold bufC
  rw [List.getElem?_toArray, List.getElem?_map]
  have hl : i < (List.replicate q (0 : Int) ++ D).length := by simpa using hi
  rw [List.getElem?_eq_getElem hl]
  simp [List.getD, List.getElem?_eq_getElem hl]
theorem bufC_tail (q : Nat) (D : List Int) (i : Nat) (hi : i < D.length) : (bufC q D)[q + i]? = some (.int .u8 (D.getD i 0)) := by
  rw [bufC_at q D _ (by omega)]
  simp [List.getD, List.getElem?_append_right]

theorem slice24 (B q : Nat) (hq : q < 24) (W : World) : (Instr.sliceAt 88 (.pointer (some ⟨B, 0, none⟩)) (some (.int .i64 (q : Int))) none none).run Tryf.prog W = .ok (.slice (some ⟨B, q, none⟩) (24 - q) (24 - q)) W := by
  have hal : Tryf.prog.arrayLen 88 = 24 := by kernel_rfl
  have hsz : (sizeOf (Tryf.prog.elem 88)).run Tryf.prog W = .ok 1 W := by kernel_rfl
  rw [run_sliceAt_array_l W 88 ⟨B, 0, none⟩ (by kernel_rfl) .i64 q (by omega) (by rw [hal]; omega), hsz, hal]
  simp only [Result.andThen, slicedAt, Int.toNat_natCast]
  rw [if_neg (by omega), Nat.mul_one, Go.WideShapes.add_plain, Nat.zero_add]
theorem digits_ne (u : Nat) : decDigits u ≠ [] := by
  rw [decDigits]
  split <;> simp

set_option maxRecDepth 100000 in
set_option maxHeartbeats 1600000 in
theorem itoaP24 (w : World) (n : Int) (h0 : 0 < n) (h1 : n ≤ 9223372036854775807) : Calls Tryf.prog 24 #[.int .i64 n] w fun e w' => e = .returned (.string ⟨(itoa n).toArray⟩) ∧ Below w.heap.size w w' := by
  obtain ⟨U, hU⟩ : ∃ U : Nat, (U : Int) = n := ⟨(n).toNat, by omega⟩
  have hUl : U ≤ 9223372036854775807 := by omega
  have HNU := Lib.hid hU
  obtain rfl : n = (U : Int) := by omega
  clear hU
  have hU0 : 0 < U := by omega
  have hz : ((U : Int) == 0) = false := by rw [beq_eq_false_iff_ne]; omega
  have HB0 := Lib.hid (Blk.new w 88 (bufC 24 []))
  have HBL := Lib.hid ((Below.refl w.heap.size w).alloc (Nat.le_refl _) (.cells (bufC 24 []) 88))
  have hbuf : (#[.int .u8 0, .int .u8 0, .int .u8 0, .int .u8 0, .int .u8 0, .int .u8 0, .int .u8 0, .int .u8 0, .int .u8 0, .int .u8 0, .int .u8 0, .int .u8 0, .int .u8 0, .int .u8 0, .int .u8 0, .int .u8 0, .int .u8 0, .int .u8 0, .int .u8 0, .int .u8 0, .int .u8 0, .int .u8 0, .int .u8 0, .int .u8 0] : Array Value) = bufC 24 [] := rfl
  go_enter Tryf.func24, Tryf.ntmps24
  go_wp2_with fail
  go_loopw [0, 4] (fun u p wr => ∃ (x q : Nat) (D : List Int), u = .int .i64 x ∧ p = .int .i64 q ∧ q + D.length = 24 ∧ 4 ≤ q ∧ x ≤ 9223372036854775807 ∧ Hid (Blk wr w.heap.size 88 (bufC q D)) ∧ Hid (decP x ++ u8s D = decDigits U) ∧ Hid (x < 10 ^ (q - 4)) ∧ Hid (Below w.heap.size w wr)) (fun u _ _ => (intOf u).toNat)
  case atStart => exact ⟨U, 24, [], rfl, rfl, rfl, by omega, hUl, HB0, Lib.hid (by simp [decP, u8s]; omega), Lib.hid (by omega), HBL⟩
  case round =>
    obtain ⟨x, q, D, rfl, rfl, hql, hq4, hxl, hbk, hdg, hpw, hbel⟩ := hrel
    have HBK := hbk
    by_cases hx : 0 < x
    · have hq5 : 5 ≤ q := by
        rcases Nat.lt_or_ge q 5 with h | h
        · have := hpw.out
          rw [show q - 4 = 0 by omega, Nat.pow_zero] at this
          omega
        · exact h
      obtain ⟨q', rfl⟩ : ∃ q', q = q' + 1 := ⟨q - 1, by omega⟩
      have HP : Hid (x / 10 < 10 ^ (q' - 4)) := Lib.hid (by
        have := hpw.out
        rw [show q' + 1 - 4 = (q' - 4) + 1 by omega, Nat.pow_succ] at this
        omega)
      have ht1 : Int.tmod (x : Int) 10 = (x : Int) % 10 := Int.tmod_eq_emod_of_nonneg (by omega)
      have ht2 : Int.tdiv (x : Int) 10 = ((x / 10 : Nat) : Int) := by rw [Int.tdiv_eq_ediv_of_nonneg (by omega)]; omega
      have g0 := HBK.out.cell q'
      rw [bufC_at (q' + 1) D q' (by omega)] at g0
      have gf := HBK.out.free q'
      have gl := HBK.out.lt
      have HS := Lib.hid (HBK.out.set q' (.int .u8 (48 + (x : Int) % 10)))
      rw [bufC_set] at HS
      have HB2 := Lib.hid (hbel.out.setCell (p := ⟨w.heap.size, q', none⟩) (Nat.le_refl _) (.int .u8 (48 + (x : Int) % 10)))
      have HDG : Hid (decP (x / 10) ++ u8s ((48 + (x : Int) % 10) :: D) = decDigits U) := Lib.hid (by
        rw [← hdg.out, decP_step x hx, List.append_assoc]
        congr 1)
      clear hdg hpw hbk hbel
      go_wp2_with fail
      go_roundw
      case rel => exact ⟨x / 10, q', _, by go_num, rfl, by simp; omega, by omega, by omega, HS, HDG, HP, HB2⟩
      case measure => simp [intOf]; omega
    · obtain rfl : x = 0 := by omega
      have HD := hdg.out
      have hD1 : 0 < D.length := by
        rcases Nat.eq_zero_or_pos D.length with h | h
        · have := List.length_eq_zero_iff.1 h
          subst this
          simp [decP, u8s] at HD
          exact absurd HD (digits_ne U)
        · exact h
      have HRES : Hid ((⟨(itoa (U : Int)).toArray⟩ : ByteArray) = strOfNums (D)) := Lib.hid (by rw [itoa_nonneg]; rw [← HD]; simp [decP, u8s, strOfNums])
      clear HD
      have hcv : ∀ dst, Tryf.prog.underlying dst = some .string → (convert 89 dst (.slice (some ⟨w.heap.size, q, none⟩) (24 - q) (24 - q))).run Tryf.prog wr = .ok (.string (strOfNums D)) wr :=
        run_convert_bytes_arg _ 89 5 Tryf.underlying89 Tryf.underlying5 w.heap.size q (24 - q) (24 - q) D (by omega) (fun i hi => by rw [HBK.out.cell, bufC_tail q D i (by omega)])
      have HB2 := hbel
      have hsl := slice24 w.heap.size q (by omega)
      clear hdg hbk hbel
      go_wp2_with fail
      go_ret
      exact ⟨by rw [HRES.out]; rfl, HB2.out⟩
set_option maxRecDepth 100000 in
theorem itoaZ24 (w : World) : Calls Tryf.prog 24 #[.int .i64 0] w fun e w' => e = .returned (.string ⟨(itoa 0).toArray⟩) ∧ Below w.heap.size w w' := by
  have h0 : itoa 0 = [48] := by rw [show (0 : Int) = ((0 : Nat) : Int) from rfl, itoa_nonneg, decDigits, dif_pos (by omega)]; rfl
  rw [h0]
  go_enter Tryf.func24, Tryf.ntmps24
  go_wp2
  go_ret
  exact ⟨rfl, Below.refl _ _⟩
end Go.Proofs.YtljfgplccnaboaaFmt
