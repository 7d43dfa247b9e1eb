/- zzVarIndex reads the number of a variable back. -/
import Derived.Test.YtljfgplccnaboaaFmtIta
import Derived.Test.YtljfgplccnaboaaFmtCom
import Derived.OwnWalk
namespace Go.Proofs.YtljfgplccnaboaaFmt
open Go.RowKit Go.Lib
set_option linter.unusedVariables false

/-- The value of the first k of L digits of U. -/
def pv (U L k : Nat) : Nat := U / 10 ^ (L - k)
theorem pv_all (U L : Nat) : pv U L L = U := by simp [pv]
theorem pv_le (U L k : Nat) : pv U L k ≤ U := Nat.div_le_self _ _
theorem pv_succ (U L k : Nat) (hk : k < L) : pv U L (k + 1) = pv U L k * 10 + U / 10 ^ (L - 1 - k) % 10 := by
  unfold pv
  rw [show L - k = (L - (k + 1)) + 1 by omega, show L - 1 - k = L - (k + 1) by omega, Nat.pow_succ, ← Nat.div_div_eq_div_mul]
  omega

set_option maxRecDepth 100000 in
set_option maxHeartbeats 1600000 in
theorem vix28 (w : World) (U : Nat) (hU : U ≤ 100000) (S : ByteArray) (g : Nat → Nat) (L : Nat) (hL : S.size = L + 1) (hL1 : 0 < L) (hLm : L ≤ 7) (hg : ∀ i (h : i < S.size), S[i].toNat = g i) (hs : g 0 = 118)
    (hd : ∀ t, t < L → g (1 + t) = 48 + U / 10 ^ (L - 1 - t) % 10) (h0 : pv U L 0 = 0) : Calls Tryf.prog 28 #[.string S] w fun e w' => e = .returned (.int .i64 U) ∧ w = w' := by
  have HG := Lib.hid hd
  have HZ := Lib.hid h0
  have hgi : ((g 0 : Int) != 118) = false := by rw [hs]; rfl
  have hsz : ¬ ((S.size : Int) < 2) := by omega
  have hsz2 : ¬ ((8 : Int) < (S.size : Int)) := by omega
  clear hd h0
  go_enter Tryf.func28, Tryf.ntmps28
  go_wp2_with fail
  go_loop [3, 4] (fun m i => ∃ k : Nat, k ≤ L ∧ i = .int .i64 ((k : Int) + 1) ∧ m = .int .i64 (pv U L k)) (fun _ i => (L + 1) - (intOf i).toNat)
  case atStart => exact ⟨0, Nat.zero_le _, by first | rfl | go_num, by rw [HZ.out]; rfl⟩
  case round =>
    obtain ⟨k, hk, rfl, rfl⟩ := hrel
    by_cases hlt : k < L
    · have hs1 := pv_succ U L k hlt
      have hgk := HG.out k hlt
      have hle := pv_le U L (k + 1)
      obtain ⟨e, he⟩ : ∃ e, e = U / 10 ^ (L - 1 - k) % 10 := ⟨_, rfl⟩
      have he10 : e < 10 := by omega
      rw [← he] at hs1 hgk
      obtain ⟨m, hm⟩ : ∃ m, m = pv U L k := ⟨_, rfl⟩
      have HS : Hid (pv U L (k + 1) = m * 10 + e) := Lib.hid (by rw [hs1, hm])
      have hme : m * 10 + e ≤ 100000 := by rw [hm, ← hs1]; omega
      rw [← hm]
      obtain ⟨c, hc⟩ : ∃ c, c = g (k + 1) := ⟨_, rfl⟩
      have hgc : g (k + 1) = c := hc.symm
      have hc1 : c = 48 + e := by rw [hc, ← hgk, Nat.add_comm]
      clear he hm hs1 hgk hle hc
      have hx1 : ¬ (c : Int) < 48 := by omega
      have hx2 : ¬ (57 : Int) < (c : Int) := by omega
      have hx3 : (c : Int) - 48 = (e : Int) := by omega
      clear hc1
      go_wp2_with fail
      go_round
      case rel => exact ⟨k + 1, by omega, by go_num, by rw [HS.out]; go_num⟩
      case measure => simp [intOf]; omega
    · obtain rfl : k = L := by omega
      rw [pv_all]
      go_wp2_with fail
      go_ret
      exact ⟨rfl, rfl⟩
theorem bytes_at (l : List UInt8) (i : Nat) (h : i < (⟨l.toArray⟩ : ByteArray).size) : (⟨l.toArray⟩ : ByteArray)[i] = l[i]'(by simpa [ByteArray.size] using h) := rfl
theorem dd_at (U t : Nat) (h : t < nDigits U) : ((decDigits U).getD t 0).toNat = 48 + U / 10 ^ (nDigits U - 1 - t) % 10 := by
  rw [decDigits_eq]
  simp [List.getD, h, dg]
  omega
theorem pv_zero (U : Nat) : pv U (nDigits U) 0 = 0 := by
  unfold pv
  rw [Nat.sub_zero]
  exact Nat.div_eq_of_lt (lt_pow_nDigits U)
/-- The name of variable u. -/
def varN (u : Nat) : ByteArray := ⟨(118 :: decDigits u).toArray⟩
theorem nDigits_lt (k : Nat) : ∀ u : Nat, u < 10 ^ (k + 1) → nDigits u ≤ k + 1 := by
  induction k with
  | zero => intro u h; rw [nDigits_small (by omega)]; omega
  | succ k ih =>
    intro u h
    by_cases h1 : u < 10
    · rw [nDigits_small h1]; omega
    · rw [nDigits_big h1]
      have := ih (u / 10) (by rw [Nat.pow_succ] at h; omega)
      omega
theorem nDigits_le7 (u : Nat) (h : u ≤ 100000) : nDigits u ≤ 7 := nDigits_lt 6 u (by omega)
theorem varN_size (u : Nat) : (varN u).size = nDigits u + 1 := by
  have hlen := decDigits_length u
  simp [varN, ByteArray.size, hlen]
theorem varN_at (u i : Nat) (h : i < (varN u).size) : (varN u)[i] = (118 :: decDigits u)[i]'(by simpa [varN, ByteArray.size] using h) := rfl
theorem vixV (w : World) (u : Nat) (hu : u ≤ 100000) : Calls Tryf.prog 28 #[.string (varN u)] w fun e w' => e = .returned (.int .i64 u) ∧ w = w' := by
  have hlen := decDigits_length u
  refine vix28 w u hu _ (fun i => ((118 :: decDigits u).getD i 0).toNat) (nDigits u) (by simp [varN, ByteArray.size, hlen]) (nDigits_pos u) (nDigits_le7 u hu) (fun i h => ?_) rfl (fun t ht => ?_) (pv_zero u)
  · rw [varN_at]
    simp only [List.getD]
    rw [List.getElem?_eq_getElem (by simpa [varN, ByteArray.size] using h)]
    rfl
  · rw [← dd_at u t ht, Nat.add_comm 1 t]
    rfl
end Go.Proofs.YtljfgplccnaboaaFmt
