/- zzFirstGroupSize. -/
import Derived.Test.YtljfgplccnaboaaFmtGps
namespace Go.Proofs.YtljfgplccnaboaaFmt
open Go.RowKit
set_option linter.unusedVariables false

/-- k is how many places the first group has. -/
def IsFirst (bs : List Bool) (n k : Nat) : Prop := k ≤ n ∧ (∀ j, j < k → grpN bs j = 0) ∧ (k = n ∨ grpN bs k ≠ 0)
def FirstN (w : World) (bs : List Bool) (n : Nat) (e : Ending) (w' : World) : Prop := ∃ k : Nat, e = .returned (.int .i64 k) ∧ IsFirst bs n k ∧ Below w.heap.size w w'
set_option maxRecDepth 100000 in
set_option maxHeartbeats 3200000 in
theorem first16 (w : World) (a : Option Addr) (nb c n : Nat) (bs : List Bool) (hl : bs.length = nb) (hnb : nb ≤ 4096) (hn : n ≤ 4096) (hr : Rd w w.heap.size a (bs.map Value.bool)) : Calls Tryf.prog 16 #[.slice a nb c, .int .i64 n] w (FirstN w bs n) := by
  unfold FirstN
  have K := Lib.hid (groups27 w a nb c n bs hl hnb hn hr)
  clear hl hr
  go_enter Tryf.func16, Tryf.ntmps16
  go_wp2_with fail
  refine K.out.mono ?_
  rintro e w1 ⟨g, rfl, hge, hblk, hbel⟩
  have HB := Lib.hid hblk
  have HE := Lib.hid hbel
  have hgl := hblk.lt
  clear hblk hbel K
  go_wp2_with fail
  go_loop [6] (fun i => ∃ k : Nat, k ≤ n ∧ i = .int .i64 k ∧ Hid (∀ j, j < k → grpN bs j = 0)) (fun i => n - (intOf i).toNat)
  case atStart => exact ⟨0, Nat.zero_le _, rfl, Lib.hid (fun j h => by omega)⟩
  case round =>
    obtain ⟨k, hk, rfl, hz⟩ := hrel
    by_cases hlt : k < n
    · have c0 : w1.cell? ⟨g, k, none⟩ = some (.int .i64 (grpN bs k)) := by
        rw [HB.out.cell]
        simp [grpL, hlt]
      by_cases h0 : grpN bs k = 0
      · rw [h0] at c0
        have H0 := Lib.hid h0
        clear h0
        go_wp2
        go_round
        case rel => exact ⟨k + 1, by omega, by go_num, Lib.hid (fun j h => by rcases Nat.lt_or_ge j k with h1 | h1; exact hz.out j h1; rw [show j = k by omega]; exact H0.out)⟩
        case measure => simp [intOf]; omega
      · have H0 := Lib.hid h0
        have d0 : ((grpN bs k : Int) == 0) = false := by rw [beq_eq_false_iff_ne]; omega
        generalize grpN bs k = q at c0 d0
        clear h0
        go_wp2
        go_ret
        exact ⟨k, rfl, ⟨by omega, hz.out, .inr H0.out⟩, HE.out⟩
    · obtain rfl : k = n := by omega
      go_wp2
      go_ret
      exact ⟨k, rfl, ⟨Nat.le_refl _, hz.out, .inl rfl⟩, HE.out⟩
end Go.Proofs.YtljfgplccnaboaaFmt
