/- Plain facts on the order of byte strings. -/
import Derived.Test.YtdgnkkjkjdlmcaaCom
namespace Go.Proofs.Ytdgnkkjkjdlmcaa

/-- The order of two byte strings, as Go has it. -/
def ltS (s t : ByteArray) : Bool := Op.bytesLess s.toList t.toList
def ltD (s t : ByteArray) (k : Nat) : Bool := Op.bytesLess (s.data.toList.drop k) (t.data.toList.drop k)

theorem ltS_zero (s t : ByteArray) : ltS s t = ltD s t 0 := by simp [ltS, ltD, ByteArray.toList_eq]
theorem drop_at (s : ByteArray) (k : Nat) (h : k < s.size) : s.data.toList.drop k = s[k] :: s.data.toList.drop (k + 1) := by
  rw [List.drop_eq_getElem_cons (by simpa using h)]
  rfl
theorem ltD_eq (s t : ByteArray) (k : Nat) (h1 : k < s.size) (h2 : k < t.size) (h : s[k].toNat = t[k].toNat) : ltD s t k = ltD s t (k + 1) := by
  have e : s[k] = t[k] := UInt8.toNat_inj.1 h
  unfold ltD
  rw [drop_at s k h1, drop_at t k h2, e]
  simp [Op.bytesLess]
theorem ltD_ne (s t : ByteArray) (k : Nat) (h1 : k < s.size) (h2 : k < t.size) (h : s[k].toNat ≠ t[k].toNat) : ltD s t k = decide (s[k].toNat < t[k].toNat) := by
  have e : s[k] ≠ t[k] := fun e => h (by rw [e])
  unfold ltD
  rw [drop_at s k h1, drop_at t k h2]
  simp [Op.bytesLess, e, UInt8.lt_iff_toNat_lt]
theorem ltD_end (s t : ByteArray) (k : Nat) (h : s.size ≤ k ∨ t.size ≤ k) (h1 : k ≤ s.size) (h2 : k ≤ t.size) : ltD s t k = decide (s.size < t.size) := by
  unfold ltD
  have hs : s.data.toList.length = s.size := by simp
  have ht : t.data.toList.length = t.size := by simp
  by_cases h3 : t.size ≤ k
  · rw [show List.drop k t.data.toList = [] from List.drop_eq_nil_of_le (by omega)]
    have : ¬ (s.size < t.size) := by omega
    rw [decide_eq_false this]
    cases List.drop k s.data.toList <;> rfl
  · rw [show List.drop k s.data.toList = [] from List.drop_eq_nil_of_le (by omega), drop_at t k (by omega)]
    have : (s.size < t.size) := by omega
    rw [decide_eq_true this]
    rfl

/-- The order of the model is the lexical order of the lists of bytes. -/
theorem bytesLess_lt (x : List UInt8) : ∀ y : List UInt8, Op.bytesLess x y = decide (x < y) := by
  induction x with
  | nil => intro y; cases y <;> simp [Op.bytesLess]
  | cons a x ih =>
    intro y
    cases y with
    | nil => simp [Op.bytesLess]
    | cons b y =>
      rw [Op.bytesLess, ih y]
      by_cases h1 : a < b <;> by_cases h2 : a = b <;> by_cases h3 : x < y <;> simp [List.cons_lt_cons_iff, h1, h2, h3]

theorem ltS_irrefl (s : ByteArray) : ltS s s = false := by
  unfold ltS
  rw [bytesLess_lt]
  simp
theorem ltS_trans {s t u : ByteArray} (h1 : ltS s t = true) (h2 : ltS t u = true) : ltS s u = true := by
  unfold ltS at *
  rw [bytesLess_lt] at *
  simp only [decide_eq_true_eq] at *
  exact List.lt_trans h1 h2
theorem ltS_asymm {s t : ByteArray} (h1 : ltS s t = true) : ltS t s = false := by
  cases h : ltS t s
  · rfl
  · have := ltS_trans h1 h
    rw [ltS_irrefl] at this
    cases this
theorem ltS_tri {s t : ByteArray} (h1 : ltS s t = false) (h2 : ltS t s = false) : s = t := by
  unfold ltS at *
  rw [bytesLess_lt] at *
  simp only [decide_eq_false_iff_not, List.not_lt] at *
  have e : s.toList = t.toList := List.le_antisymm h2 h1
  rw [ByteArray.toList_eq, ByteArray.toList_eq] at e
  exact Go.WideShapes.bytes_inj e
end Go.Proofs.Ytdgnkkjkjdlmcaa
