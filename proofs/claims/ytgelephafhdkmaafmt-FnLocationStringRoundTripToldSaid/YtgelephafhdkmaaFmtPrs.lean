/- zzParseInt reads the numeral of an int back. -/
import Derived.Test.YtgelephafhdkmaaFmtL2
namespace Go.Proofs.YtgelephafhdkmaaFmt
open Go.RowKit Go.Lib
set_option linter.unusedVariables false

/-- The value of the first k of L digits of U. -/
def pv (U L k : Nat) : Nat := U / 10 ^ (L - k)
theorem pv_zero (U : Nat) : pv U (nDigits U) 0 = 0 := by
  unfold pv
  rw [Nat.sub_zero]
  exact Nat.div_eq_of_lt (lt_pow_nDigits U)
theorem pv_all (U L : Nat) : pv U L L = U := by simp [pv]
theorem pv_le (U L k : Nat) : pv U L k ≤ U := Nat.div_le_self _ _
theorem pv_succ (U L k : Nat) (hk : k < L) : pv U L (k + 1) = pv U L k * 10 + U / 10 ^ (L - 1 - k) % 10 := by
  unfold pv
  rw [show L - k = (L - (k + 1)) + 1 by omega, show L - 1 - k = L - (k + 1) by omega, Nat.pow_succ, ← Nat.div_div_eq_div_mul]
  omega

set_option maxRecDepth 100000 in
set_option maxHeartbeats 1600000 in
theorem parseP7 (w : World) (U : Nat) (hU : U ≤ 9223372036854775807) (S : ByteArray) (g : Nat → Nat) (L : Nat) (hL : S.size = L) (hL1 : 0 < L) (hLm : L ≤ 30) (hg : ∀ i (h : i < S.size), S[i].toNat = g i)
    (hd : ∀ t, t < L → g (t) = 48 + U / 10 ^ (L - 1 - t) % 10) (h0 : pv U L 0 = 0) : Calls Tryf.prog 7 #[.string S] w fun e w' => e = .returned (.tuple #[.int .i64 U, .bool true]) ∧ Below w.heap.size w w' := by
  have HG := Lib.hid hd
  have d0 := hd 0 hL1
  have hgi : ((g 0 : Int) == 45) = false := by rw [beq_eq_false_iff_ne]; omega
  clear d0
  have HZ := Lib.hid h0
  clear hd h0
  go_enter Tryf.func7, Tryf.ntmps7
  go_wp2_with fail
  go_loop [5, 7] (fun i m => ∃ k : Nat, k ≤ L ∧ i = .int .i64 k ∧ m = .int .u64 (pv U L k)) (fun i _ => (L + 1) - (intOf i).toNat)
  case atStart => exact ⟨0, Nat.zero_le _, by first | rfl | go_num, by rw [HZ.out]; rfl⟩
  case round =>
    obtain ⟨k, hk, rfl, rfl⟩ := hrel
    by_cases hlt : k < L
    · have hs1 := pv_succ U L k hlt
      have hgk := HG.out k hlt
      have hle := pv_le U L (k + 1)
      obtain ⟨e, he⟩ : ∃ e, e = U / 10 ^ (L - 1 - k) % 10 := ⟨_, rfl⟩
      have he10 : e < 10 := by omega
      rw [← he] at hs1 hgk
      obtain ⟨m, hm⟩ : ∃ m, m = pv U L k := ⟨_, rfl⟩
      have HS : Hid (pv U L (k + 1) = m * 10 + e) := Lib.hid (by rw [hs1, hm])
      have hme : m * 10 + e ≤ 9223372036854775808 := by rw [hm, ← hs1]; omega
      rw [← hm]
      obtain ⟨c, hc⟩ : ∃ c, c = g k := ⟨_, rfl⟩
      have hgc : g k = c := hc.symm
      have hc1 : c = 48 + e := by rw [hc, ← hgk]
      clear he hm hs1 hgk hle hc
      have hx1 : ¬ (c : Int) < 48 := by omega
      have hx2 : ¬ (57 : Int) < (c : Int) := by omega
      have hx3 : (c : Int) - 48 = (e : Int) := by omega
      have hx4 : ¬ ((9223372036854775808 - (e : Int)) / 10 < (m : Int)) := by omega
      clear hc1
      go_wp2_with fail
      go_round
      case rel => exact ⟨k + 1, by omega, by go_num, by rw [HS.out]; go_num⟩
      case measure => simp [intOf]; omega
    · obtain rfl : k = L := by omega
      rw [pv_all]
      go_wp2_with fail
      go_ret2
      exact ⟨rfl, Below.refl _ _⟩
set_option maxRecDepth 100000 in
set_option maxHeartbeats 1600000 in
theorem parseN7 (w : World) (U : Nat) (hU : 1 ≤ U ∧ U ≤ 9223372036854775808) (S : ByteArray) (g : Nat → Nat) (L : Nat) (hL : S.size = L + 1) (hL1 : 0 < L) (hLm : L ≤ 30) (hg : ∀ i (h : i < S.size), S[i].toNat = g i) (hs : g 0 = 45)
    (hd : ∀ t, t < L → g (1 + t) = 48 + U / 10 ^ (L - 1 - t) % 10) (h0 : pv U L 0 = 0) : Calls Tryf.prog 7 #[.string S] w fun e w' => e = .returned (.tuple #[.int .i64 (-(U : Int)), .bool true]) ∧ Below w.heap.size w w' := by
  have HG := Lib.hid hd
  have hgi : ((g 0 : Int) == 45) = true := by rw [beq_iff_eq]; omega
  have hw1 : IntKind.u64.wrap (-(U : Int)) = 18446744073709551616 - (U : Int) := by rw [IntKind.wrap_u64]; omega
  have hw2 : IntKind.i64.wrap (18446744073709551616 - (U : Int)) = -(U : Int) := by rw [IntKind.wrap_i64]; omega
  have HZ := Lib.hid h0
  clear hd h0
  go_enter Tryf.func7, Tryf.ntmps7
  go_wp2_with fail
  go_loop [5, 7] (fun i m => ∃ k : Nat, k ≤ L ∧ i = .int .i64 ((k : Int) + 1) ∧ m = .int .u64 (pv U L k)) (fun i _ => (L + 1) - (intOf i).toNat)
  case atStart => exact ⟨0, Nat.zero_le _, by first | rfl | go_num, by rw [HZ.out]; rfl⟩
  case round =>
    obtain ⟨k, hk, rfl, rfl⟩ := hrel
    by_cases hlt : k < L
    · have hs1 := pv_succ U L k hlt
      have hgk := HG.out k hlt
      have hle := pv_le U L (k + 1)
      obtain ⟨e, he⟩ : ∃ e, e = U / 10 ^ (L - 1 - k) % 10 := ⟨_, rfl⟩
      have he10 : e < 10 := by omega
      rw [← he] at hs1 hgk
      obtain ⟨m, hm⟩ : ∃ m, m = pv U L k := ⟨_, rfl⟩
      have HS : Hid (pv U L (k + 1) = m * 10 + e) := Lib.hid (by rw [hs1, hm])
      have hme : m * 10 + e ≤ 9223372036854775808 := by rw [hm, ← hs1]; omega
      rw [← hm]
      obtain ⟨c, hc⟩ : ∃ c, c = g (k + 1) := ⟨_, rfl⟩
      have hgc : g (k + 1) = c := hc.symm
      have hc1 : c = 48 + e := by rw [hc, ← hgk, Nat.add_comm]
      clear he hm hs1 hgk hle hc
      have hx1 : ¬ (c : Int) < 48 := by omega
      have hx2 : ¬ (57 : Int) < (c : Int) := by omega
      have hx3 : (c : Int) - 48 = (e : Int) := by omega
      have hx4 : ¬ ((9223372036854775808 - (e : Int)) / 10 < (m : Int)) := by omega
      clear hc1
      go_wp2_with fail
      go_round
      case rel => exact ⟨k + 1, by omega, by go_num, by rw [HS.out]; go_num⟩
      case measure => simp [intOf]; omega
    · obtain rfl : k = L := by omega
      rw [pv_all]
      go_wp2_with fail
      go_ret2
      exact ⟨rfl, Below.refl _ _⟩
end Go.Proofs.YtgelephafhdkmaaFmt
