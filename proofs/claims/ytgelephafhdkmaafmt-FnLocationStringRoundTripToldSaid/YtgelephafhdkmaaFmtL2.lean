/- The walk of the law that a location prints as two numerals round a colon. -/
import Derived.Test.YtgelephafhdkmaaFmtStr
namespace Go.Proofs.YtgelephafhdkmaaFmt
open Go.RowKit Go.Extern.Stop Go.Stop Go.Extern Go.Lib Go.Kit
set_option linter.unusedVariables false

theorem wf_bounds {n : Int} (h : (Lit.int .i64 n).wf = true) : -9223372036854775808 ≤ n ∧ n ≤ 9223372036854775807 := by
  simp [Lit.wf, IntKind.min, IntKind.max, IntKind.bits, IntKind.signed] at h
  omega
set_option maxHeartbeats 800000 in
theorem law2 (F : Interp) (line col : Int) (h1 : (Lit.int .i64 line).wf = true) (h2 : (Lit.int .i64 col).wf = true) (w : World) (hF : F.told.answers w.tape) :
    Calls Tryf.prog 3 #[.int .i64 line, .int .i64 col] w fun e w' => e = .returned (.bool true) ∧ Below w.heap.size w w' := by
  have b1 := wf_bounds h1
  have b2 := wf_bounds h2
  have HS := Lib.hid (str5 F w.heap.size line col h1 h2 (w.alloc (.cells #[.int .i64 line, .int .i64 col] 23)) hF (Blk.new _ _ _))
  have I1 := Lib.hid (fun W => itoa6 W line b1.1 b1.2)
  have I2 := Lib.hid (fun W => itoa6 W col b2.1 b2.2)
  have l1 := itoa_length_le line b1.1 b1.2
  have l2 := itoa_length_le col b2.1 b2.2
  obtain ⟨A, hA⟩ : ∃ A : ByteArray, A = ⟨(itoa line).toArray⟩ := ⟨_, rfl⟩
  obtain ⟨B, hB⟩ : ∃ B : ByteArray, B = ⟨(itoa col).toArray⟩ := ⟨_, rfl⟩
  have sA : A.size ≤ 21 := by rw [hA]; simpa [ByteArray.size] using l1
  have sB : B.size ≤ 21 := by rw [hB]; simpa [ByteArray.size] using l2
  have hT : (⟨(locText line col).toArray⟩ : ByteArray) = A ++ (⟨#[58]⟩ : ByteArray) ++ B := by
    rw [hA, hB]
    apply ByteArray.ext
    simp [locText, ByteArray.data_append]
  rw [hT] at HS
  rw [← hA] at I1
  rw [← hB] at I2
  clear hA hB hT l1 l2 b1 b2
  have B0 := Lib.hid (fun o => (Below.refl w.heap.size w).alloc (Nat.le_refl _) o)
  go_enter Tryf.func3, Tryf.ntmps3
  go_wp2_with fail
  refine HS.out.mono ?_
  rintro e w1 ⟨rfl, hb1⟩
  have B1 := Lib.hid ((B0.out _).trans (hb1.mono (by simp)))
  clear hb1 HS
  go_wp2_with fail
  refine (I1.out _).mono ?_
  rintro e w2 ⟨rfl, hb2⟩
  have B2 := Lib.hid (B1.out.trans (hb2.mono B1.out.size))
  clear hb2
  go_wp2_with fail
  refine (I2.out _).mono ?_
  rintro e w3 ⟨rfl, hb3⟩
  have B3 := Lib.hid (B2.out.trans (hb3.mono B2.out.size))
  clear hb3
  go_wp2_with fail
  go_ret
  exact ⟨by simp, B3.out⟩
end Go.Proofs.YtgelephafhdkmaaFmt
