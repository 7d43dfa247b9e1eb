/- The order of byte strings. -/
import Derived.Test.YtljfgplccnaboaaFmtCom
import Derived.WideShapes
namespace Go.Proofs.YtljfgplccnaboaaFmt

/-- The order of two byte strings, as Go has it. -/
def ltS (s t : ByteArray) : Bool := Op.bytesLess s.toList t.toList
/-- The order of the model is the lexical order of the lists of bytes. -/
theorem bytesLess_lt (x : List UInt8) : ∀ y : List UInt8, Op.bytesLess x y = decide (x < y) := by
  induction x with
  | nil => intro y; cases y <;> simp [Op.bytesLess]
  | cons a x ih =>
    intro y
    cases y with
    | nil => simp [Op.bytesLess]
    | cons b y =>
      rw [Op.bytesLess, ih y]
      by_cases h1 : a < b <;> by_cases h2 : a = b <;> by_cases h3 : x < y <;> simp [List.cons_lt_cons_iff, h1, h2, h3]

theorem ltS_irrefl (s : ByteArray) : ltS s s = false := by
  unfold ltS
  rw [bytesLess_lt]
  simp
theorem ltS_trans {s t u : ByteArray} (h1 : ltS s t = true) (h2 : ltS t u = true) : ltS s u = true := by
  unfold ltS at *
  rw [bytesLess_lt] at *
  simp only [decide_eq_true_eq] at *
  exact List.lt_trans h1 h2
theorem ltS_asymm {s t : ByteArray} (h1 : ltS s t = true) : ltS t s = false := by
  cases h : ltS t s
  · rfl
  · have := ltS_trans h1 h
    rw [ltS_irrefl] at this
    cases this
theorem ltS_tri {s t : ByteArray} (h1 : ltS s t = false) (h2 : ltS t s = false) : s = t := by
  unfold ltS at *
  rw [bytesLess_lt] at *
  simp only [decide_eq_false_iff_not, List.not_lt] at *
  have e : s.toList = t.toList := List.le_antisymm h2 h1
  rw [ByteArray.toList_eq, ByteArray.toList_eq] at e
  exact Go.WideShapes.bytes_inj e
theorem bytes_eq {s t : ByteArray} : (s.toList == t.toList) = decide (s = t) := by
  by_cases h : s = t
  · subst h
    simp
  · rw [decide_eq_false h, beq_eq_false_iff_ne]
    intro e
    rw [ByteArray.toList_eq, ByteArray.toList_eq] at e
    exact h (Go.WideShapes.bytes_inj e)
end Go.Proofs.YtljfgplccnaboaaFmt
