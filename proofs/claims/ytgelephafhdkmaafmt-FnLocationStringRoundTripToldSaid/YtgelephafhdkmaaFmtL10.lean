/- The walk of the law that a location's text reads back. -/
import Derived.Test.YtgelephafhdkmaaFmtPrs
namespace Go.Proofs.YtgelephafhdkmaaFmt
open Go.RowKit Go.Extern.Stop Go.Stop Go.Extern Go.Lib Go.Kit
set_option linter.unusedVariables false

theorem bytes_at (l : List UInt8) (i : Nat) (h : i < (⟨l.toArray⟩ : ByteArray).size) : (⟨l.toArray⟩ : ByteArray)[i] = l[i]'(by simpa [ByteArray.size] using h) := rfl
theorem dd_at (U t : Nat) (h : t < nDigits U) : ((decDigits U).getD t 0).toNat = 48 + U / 10 ^ (nDigits U - 1 - t) % 10 := by
  rw [decDigits_eq]
  simp [List.getD, h, dg]
  omega
theorem parse7 (w : World) (n : Int) (h0 : -9223372036854775808 ≤ n) (h1 : n ≤ 9223372036854775807) : Calls Tryf.prog 7 #[.string ⟨(itoa n).toArray⟩] w fun e w' => e = .returned (.tuple #[.int .i64 n, .bool true]) ∧ Below w.heap.size w w' := by
  have hl := itoa_length_le n h0 h1
  by_cases hn : n < 0
  · obtain ⟨U, hU⟩ : ∃ U : Nat, n = -(U : Int) := ⟨(-n).toNat, by omega⟩
    subst hU
    have e := itoa_neg U (by omega)
    rw [e] at hl ⊢
    have hlen := decDigits_length U
    refine parseN7 w U ⟨by omega, by omega⟩ _ (fun i => ((45 :: decDigits U).getD i 0).toNat) (nDigits U) (by simp [ByteArray.size, hlen]) (nDigits_pos U) (by simp [hlen] at hl; omega) (fun i h => ?_) rfl (fun t ht => ?_) (pv_zero U)
    · rw [bytes_at]
      simp only [List.getD]
      rw [List.getElem?_eq_getElem (by simpa [ByteArray.size] using h)]
      rfl
    · rw [← dd_at U t ht, Nat.add_comm 1 t]
      rfl
  · obtain ⟨U, hU⟩ : ∃ U : Nat, n = (U : Int) := ⟨n.toNat, by omega⟩
    subst hU
    have e := itoa_nonneg U
    rw [e] at hl ⊢
    have hlen := decDigits_length U
    refine parseP7 w U (by omega) _ (fun i => ((decDigits U).getD i 0).toNat) (nDigits U) (by simp [ByteArray.size, hlen]) (nDigits_pos U) (by rw [hlen] at hl; omega) (fun i h => ?_) (fun t ht => dd_at U t ht) (pv_zero U)
    rw [bytes_at]
    simp only [List.getD]
    rw [List.getElem?_eq_getElem (by simpa [ByteArray.size] using h)]
    rfl
theorem dec_ne (U : Nat) : ∀ c ∈ decDigits U, c.toNat ≠ 58 := by
  intro c hc
  rw [decDigits_eq] at hc
  obtain ⟨t, _, rfl⟩ := List.mem_map.1 hc
  simp [dg]
  omega
theorem itoa_ne (n : Int) : ∀ c ∈ itoa n, c.toNat ≠ 58 := by
  intro c hc
  unfold itoa at hc
  split at hc
  · rcases List.mem_cons.1 hc with rfl | h
    · decide
    · exact dec_ne _ c h
  · exact dec_ne _ c hc

set_option maxRecDepth 100000 in
set_option maxHeartbeats 1600000 in
theorem law10 (F : Interp) (line col : Int) (h1 : (Lit.int .i64 line).wf = true) (h2 : (Lit.int .i64 col).wf = true) (w : World) (hF : F.told.answers w.tape) :
    Calls Tryf.prog 4 #[.int .i64 line, .int .i64 col] w fun e w' => e = .returned (.bool true) ∧ Below w.heap.size w w' := by
  have b1 := wf_bounds h1
  have b2 := wf_bounds h2
  have HS := Lib.hid (str5 F w.heap.size line col h1 h2 (w.alloc (.cells #[.int .i64 line, .int .i64 col] 23)) hF (Blk.new _ _ _))
  have P1 := Lib.hid (fun W => parse7 W line b1.1 b1.2)
  have P2 := Lib.hid (fun W => parse7 W col b2.1 b2.2)
  have m1 := itoa_length_le line b1.1 b1.2
  have m2 := itoa_length_le col b2.1 b2.2
  have hne := itoa_ne line
  obtain ⟨l1, hl1⟩ : ∃ l1, l1 = (itoa line).length := ⟨_, rfl⟩
  obtain ⟨l2, hl2⟩ : ∃ l2, l2 = (itoa col).length := ⟨_, rfl⟩
  rw [← hl1] at m1
  rw [← hl2] at m2
  obtain ⟨S, hS⟩ : ∃ S : ByteArray, S = ⟨(locText line col).toArray⟩ := ⟨_, rfl⟩
  have hsz : S.size = l1 + 1 + l2 := by rw [hS, hl1, hl2]; simp [ByteArray.size, locText]; omega
  have hg : ∀ i (h : i < S.size), S[i].toNat = ((locText line col).getD i 0).toNat := fun i h => by
    subst hS
    rw [bytes_at]
    simp only [List.getD]
    rw [List.getElem?_eq_getElem (by simpa [ByteArray.size] using h)]
    rfl
  have hx1 : S.extract 0 l1 = ⟨(itoa line).toArray⟩ := by
    apply ByteArray.ext
    apply Array.ext'
    rw [hS, hl1]
    simp [locText]
  have hx2 : S.extract (l1 + 1) (l1 + 1 + l2) = ⟨(itoa col).toArray⟩ := by
    apply ByteArray.ext
    apply Array.ext'
    rw [hS, hl1, hl2]
    simp [locText]
  have hg1 : ∀ k, k < l1 → ((locText line col).getD k 0).toNat ≠ 58 := fun k hk => by
    have hm : (locText line col)[k]? = (itoa line)[k]? := by unfold locText; rw [List.append_assoc, List.getElem?_append_left (by omega)]
    simp only [List.getD]
    rw [hm, List.getElem?_eq_getElem (by omega)]
    exact hne _ (List.getElem_mem _)
  have hg2 : ((locText line col).getD l1 0).toNat = 58 := by
    have hm : (locText line col)[l1]? = some 58 := by unfold locText; rw [List.append_assoc, List.getElem?_append_right (by omega), hl1, Nat.sub_self]; rfl
    simp only [List.getD]
    rw [hm]
    rfl
  rw [← hS] at HS
  rw [← hx1] at P1
  rw [← hx2] at P2
  generalize hG : (fun i => ((locText line col).getD i 0).toNat) = g
  have hgg : ∀ i, ((locText line col).getD i 0).toNat = g i := fun i => congrFun hG i
  simp only [hgg] at hg hg1 hg2
  have HG1 := Lib.hid hg1
  clear hS hl1 hl2 hne hG hgg hg1 hx1 hx2 b1 b2
  generalize hE1 : S.extract 0 l1 = E1 at *
  generalize hE2 : S.extract (l1 + 1) (l1 + 1 + l2) = E2 at *
  have B0 := Lib.hid (fun o => (Below.refl w.heap.size w).alloc (Nat.le_refl _) o)
  go_enter Tryf.func4, Tryf.ntmps4
  go_wp2_with fail
  refine HS.out.mono ?_
  rintro e w1 ⟨rfl, hb1⟩
  have B1 := Lib.hid ((B0.out _).trans (hb1.mono (by simp)))
  clear hb1 HS
  go_wp2_with fail
  go_loop [7] (fun i => ∃ k : Nat, k ≤ l1 ∧ i = .int .i64 k) (fun i => l1 - (intOf i).toNat)
  case atStart => exact ⟨0, Nat.zero_le _, rfl⟩
  case round =>
    obtain ⟨k, hk, rfl⟩ := hrel
    by_cases hlt : k < l1
    · have hkk := HG1.out k hlt
      have hn1 : ((g k : Int) != 58) = true := by simp; omega
      have hks : (k : Int) < (l1 : Int) + 1 + (l2 : Int) := by omega
      clear hkk
      go_wp2_with fail
      go_round
      case rel => exact ⟨k + 1, by omega, by go_num⟩
      case measure => simp [intOf]; omega
    · obtain rfl : k = l1 := by omega
      have hn1 : ((g k : Int) != 58) = false := by simp; omega
      have hks : (k : Int) < (k : Int) + 1 + (l2 : Int) := by omega
      have hks2 : ¬ ((k : Int) + 1 + (l2 : Int) ≤ (k : Int)) := by omega
      go_wp2_with fail
      refine (P1.out _).mono ?_
      rintro e w2 ⟨rfl, hb2⟩
      have B2 := Lib.hid (B1.out.trans (hb2.mono B1.out.size))
      clear hb2
      go_wp2_with fail
      refine (P2.out _).mono ?_
      rintro e w3 ⟨rfl, hb3⟩
      have B3 := Lib.hid (B2.out.trans (hb3.mono B2.out.size))
      clear hb3
      go_wp2_with fail
      go_ret
      exact ⟨by simp, B3.out⟩
end Go.Proofs.YtgelephafhdkmaaFmt
