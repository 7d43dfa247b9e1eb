/- Fodder elements in memory: four cells each (comment, kind, blanks, indent). -/
import Derived.Test.YtlaghkppjdphnaaFmtFill
namespace Go.Proofs.YtlaghkppjdphnaaFmt
open Go.RowKit
set_option linter.unusedVariables false

structure El where
  com : Value
  kind : Int
  blanks : Int
  indent : Int

def El.cells (e : El) : List Value := [e.com, .int .i64 e.kind, .int .i64 e.blanks, .int .i64 e.indent]
def cellsF (es : List El) : List Value := es.flatMap El.cells

theorem El.len (e : El) : e.cells.length = 4 := rfl
theorem cellsF_nil : cellsF [] = [] := rfl
theorem cellsF_cons (e : El) (es : List El) : cellsF (e :: es) = e.cells ++ cellsF es := rfl
theorem cellsF_append (a b : List El) : cellsF (a ++ b) = cellsF a ++ cellsF b := by simp [cellsF]
theorem cellsF_len (es : List El) : (cellsF es).length = es.length * 4 := by
  induction es with
  | nil => rfl
  | cons e es ih => rw [cellsF_cons, List.length_append, ih, El.len, List.length_cons]; omega
theorem cellsF_at (es : List El) : ∀ (i j : Nat) (e : El), es[i]? = some e → j < 4 → (cellsF es)[i * 4 + j]? = e.cells[j]? := by
  induction es with
  | nil => intro i j e h; simp at h
  | cons x es ih =>
    intro i j e h hj
    rw [cellsF_cons]
    cases i with
    | zero =>
      simp only [List.getElem?_cons_zero, Option.some.injEq] at h
      subst h
      rw [List.getElem?_append_left (by rw [El.len]; omega)]
      simp
    | succ i =>
      simp only [List.getElem?_cons_succ] at h
      rw [List.getElem?_append_right (by rw [El.len]; omega), El.len, ← ih i j e h hj]
      congr 1
      omega
theorem cellsF_com (es : List El) (i : Nat) (e : El) (h : es[i]? = some e) : (cellsF es)[i * 4]? = some e.com := cellsF_at es i 0 e h (by omega)
theorem cellsF_kind (es : List El) (i : Nat) (e : El) (h : es[i]? = some e) : (cellsF es)[i * 4 + 1]? = some (.int .i64 e.kind) := cellsF_at es i 1 e h (by omega)
theorem cellsF_blanks (es : List El) (i : Nat) (e : El) (h : es[i]? = some e) : (cellsF es)[i * 4 + 2]? = some (.int .i64 e.blanks) := cellsF_at es i 2 e h (by omega)
theorem cellsF_indent (es : List El) (i : Nat) (e : El) (h : es[i]? = some e) : (cellsF es)[i * 4 + 3]? = some (.int .i64 e.indent) := cellsF_at es i 3 e h (by omega)
theorem cellsF_take (es : List El) : ∀ k : Nat, (cellsF es).take (k * 4) = cellsF (es.take k) := by
  induction es with
  | nil => intro k; simp [cellsF]
  | cons e es ih =>
    intro k
    cases k with
    | zero => simp [cellsF]
    | succ k =>
      rw [cellsF_cons, List.take_succ_cons, cellsF_cons, ← ih k, List.take_append, El.len, List.take_of_length_le (by rw [El.len]; omega)]
      congr 2
      omega
theorem cellsF_drop (es : List El) : ∀ k : Nat, (cellsF es).drop (k * 4) = cellsF (es.drop k) := by
  induction es with
  | nil => intro k; simp [cellsF]
  | cons e es ih =>
    intro k
    cases k with
    | zero => simp
    | succ k =>
      rw [cellsF_cons, List.drop_succ_cons, ← ih k, List.drop_append, El.len, List.drop_eq_nil_of_le (by rw [El.len]; omega), List.nil_append]
      congr 1
      omega
/-- One cell of one element overwritten. -/
theorem cellsF_set (es : List El) (i j : Nat) (e e' : El) (u : Value) (h : es[i]? = some e) (hj : j < 4) (hu : e'.cells = e.cells.set j u) : ((cellsF es).toArray.setIfInBounds (i * 4 + j) u) = (cellsF (es.set i e')).toArray := by
  rw [List.setIfInBounds_toArray]
  congr 1
  induction es generalizing i with
  | nil => simp at h
  | cons x es ih =>
    cases i with
    | zero =>
      simp only [List.getElem?_cons_zero, Option.some.injEq] at h
      subst h
      rw [List.set_cons_zero, cellsF_cons, cellsF_cons, hu, List.set_append_left _ _ (by rw [El.len]; omega)]
      simp
    | succ i =>
      simp only [List.getElem?_cons_succ] at h
      rw [List.set_cons_succ, cellsF_cons, cellsF_cons, ← ih i h, List.set_append_right _ _ (by rw [El.len]; omega), El.len]
      congr 2
      omega
end Go.Proofs.YtlaghkppjdphnaaFmt
