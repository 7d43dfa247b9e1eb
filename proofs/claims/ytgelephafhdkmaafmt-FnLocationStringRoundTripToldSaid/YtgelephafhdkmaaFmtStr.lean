/- Location.String: the text that fmt gives. -/
import Derived.Test.YtgelephafhdkmaaFmtIta
import Derived.Stop.CallBack
import Derived.Stop.IfaceNil
import Derived.Stop.FmtTextKit
import Derived.Stop.Told
import Derived.Stop.Texts
import Derived.WalkSpells
import GoSem.ClaimData
namespace Go.Proofs.YtgelephafhdkmaaFmt
open Go.RowKit Go.Extern.Stop Go.Stop Go.Extern Go.Lib Go.Kit
set_option linter.unusedVariables false

@[go_sem] theorem Tryf.call8 (args : Array Value) (w : World) : (callFunc 8 args).run Tryf.prog w = ((FmtStop.sprintf #[9, 50] #[9] args).run Tryf.prog w).andThen fun v w' => .ok (.value v) w' :=
  run_callFunc_extern Tryf.func8 (by kernel_rfl) (by kernel_rfl) (by kernel_rfl) (by kernel_rfl) args w
@[go_sem] theorem Tryf.guard (name : String) (w : World) : (FmtStop.guard name).run Tryf.prog w = .ok () w := by kernel_rfl
@[go_sem] theorem Tryf.fmt0 : FmtStop.printed? ⟨#[37, 118, 58, 37, 118]⟩ 2 = some [(0, 118, false), (1, 118, false)] := by kernel_rfl
@[go_sem] theorem Tryf.fmt0r (w : World) : (FmtDoors.printed ⟨#[37, 118, 58, 37, 118]⟩ 2).run Tryf.prog w = .ok [(0, 118, false), (1, 118, false)] w := by kernel_rfl
def Tryf.shape3 : List UInt8 := [5, 3, 0, 0, 0, 0, 0, 0, 0, 105, 110, 116]
@[go_sem] theorem Tryf.op3_118 (name : String) (x : Int) (w : World) : (FmtStop.operand name false 118 false (.iface 3 (.int .i64 x))).run Tryf.prog w = .ok (Tryf.shape3, Go.Extern.Stop.digits 8 (x % 2 ^ 64).toNat) w := by kernel_rfl
@[go_sem] theorem Tryf.strict3 (name : String) (x : Int) (w : World) : (FmtStop.strict name (.iface 3 (.int .i64 x))).run Tryf.prog w = .ok (Tryf.shape3, Go.Extern.Stop.digits 8 (x % 2 ^ 64).toNat) w := by kernel_rfl

/-- What fmt is asked. -/
def reading (line col : Int) : List (List UInt8) :=
  [[37, 118, 58, 37, 118], Tryf.shape3, digits 8 (line % 18446744073709551616).toNat, Tryf.shape3, digits 8 (col % 18446744073709551616).toNat]
def locText (line col : Int) : List UInt8 := itoa line ++ [58] ++ itoa col
theorem loc_parse : (FmtText.parse [37, 118, 58, 37, 118]).map FmtText.glue = some [.verb {} 118, .lit [58], .verb {} 118] := by rfl
theorem loc_text (line col : Int) (h1 : (Lit.int .i64 line).wf = true) (h2 : (Lit.int .i64 col).wf = true) : FmtText.text "fmt.Sprintf" (reading line col) = some (locText line col) := by
  have o1 := FmtText.operand_int_at (sh := Tryf.shape3) (k := .i64) rfl rfl line h1
  have o2 := FmtText.operand_int_at (sh := Tryf.shape3) (k := .i64) rfl rfl col h2
  rw [reading, FmtText.text_sprintf_glued loc_parse (FmtText.operands_cons o1 (FmtText.operands_cons o2 FmtText.operands_nil))]
  simp [FmtText.render, FmtText.printArg_v _ _ h1, FmtText.printArg_v _ _ h2, locText]
theorem loc_told (F : Interp) (line col : Int) (h1 : (Lit.int .i64 line).wf = true) (h2 : (Lit.int .i64 col).wf = true) : FmtStop.textOf (F.told "fmt.Sprintf" (reading line col) 0) = ⟨(locText line col).toArray⟩ := by
  have l1 := FmtText.itoa_length_le h1
  have l2 := FmtText.itoa_length_le h2
  have ht := told_string F (loc_text line col h1 h2) (by simp [locText]; omega)
  have h3 := (textOf_list F.told "fmt.Sprintf" (reading line col)).trans ht
  apply ByteArray.ext
  apply Array.ext'
  rw [h3]

set_option maxHeartbeats 400000 in
theorem str5 (F : Interp) (p : Nat) (line col : Int) (h1 : (Lit.int .i64 line).wf = true) (h2 : (Lit.int .i64 col).wf = true) (w : World) (hF : F.told.answers w.tape) (hb : Blk w p 23 #[.int .i64 line, .int .i64 col]) :
    Calls Tryf.prog 5 #[.pointer (some ⟨p, 0, none⟩)] w fun e w' => e = .returned (.string ⟨(locText line col).toArray⟩) ∧ Below w.heap.size w w' := by
  have hF' := answers_open hF
  have x0 := hb.cell 0
  have x1 := hb.cell 1
  simp at x0 x1
  have pl := hb.lt
  have HT := Lib.hid (loc_told F line col h1 h2)
  clear hb
  go_enter Tryf.func5, Tryf.ntmps5
  go_wp2_with fail
  refine wp_region_tail 10 (by kernel_rfl) (by kernel_rfl) ?_
  simp only [List.take_succ_cons, List.take_zero, List.drop_succ_cons, List.drop_zero]
  repeat still_step
  refine wpStill_nil ?_
  go_wp2

  go_ret
  exact ⟨by rw [← HT.out]; rfl, ((Below.refl _ _).drew.alloc (Nat.le_refl _) _).drew⟩
end Go.Proofs.YtgelephafhdkmaaFmt
