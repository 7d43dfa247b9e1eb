/- FodderAppend onto a row of the call's own, whatever the element; splitFodder as plain data. -/
import Derived.Test.YtakhhnjnohnllaaFmtFaq
import Derived.Test.YtakhhnjnohnllaaFmtFar
import Derived.Test.YtakhhnjnohnllaaFmtFas
namespace Go.Proofs.YtakhhnjnohnllaaFmt
open Go.RowKit
set_option linter.unusedVariables false

theorem fapp_any (w : World) (p r : Nat) (S : Nat → Prop) (v : Value) (els : List El) (es : List LE) (h : Var w p r S v els es) (ca : Option Addr) (cl cc : Nat) (kd bl ind : Int) (c : Option (List ByteArray)) (hc : ComIs w S (.slice ca cl cc) c) (hl : es.length ≤ 16777000) :
    Calls Tryf.prog 16 #[.pointer (some ⟨p, 0, none⟩), .agg #[.slice ca cl cc, .int .i64 kd, .int .i64 bl, .int .i64 ind]] w (Appd w p r S (fapp es ⟨kd, bl, ind, c⟩)) := by
  obtain ⟨a', cp', he, -, -, -⟩ := hc.open
  injection he with _ hcl _
  unfold fapp
  simp only
  cases hcb : isClean es with
  | true =>
    by_cases hk : kd = 0
    · subst hk
      rw [if_pos ⟨rfl, rfl⟩, ← hcl]
      by_cases hp : 0 < cl
      · rw [if_pos hp]
        exact fapp_par w p r S v els es h ca cl cc bl ind c hc hl hcb hp
      · rw [if_neg hp]
        exact fapp_bump w p r S v els es h ca cl cc bl ind c hc hl hcb (by omega)
    · rw [if_neg (by simp [hk]), if_neg (by simp)]
      exact fapp_plain w p r S v els es h ca cl cc kd bl ind c hc hl true hcb (.inl ⟨rfl, hk⟩)
  | false =>
    rw [if_neg (by simp)]
    by_cases hk : kd = 2
    · subst hk
      rw [if_pos ⟨rfl, rfl⟩]
      exact fapp_two w p r S v els es h ca cl cc bl ind c hc hl hcb
    · rw [if_neg (by simp [hk])]
      exact fapp_plain w p r S v els es h ca cl cc kd bl ind c hc hl false hcb (.inr ⟨rfl, hk⟩)

/-- One round of splitFodder. -/
def splS (s : List LE × List LE × Bool) (e : LE) : List LE × List LE × Bool :=
  if s.2.2 = true then (s.1, fapp s.2.1 e, true)
  else if e.kind = 1 then (s.1 ++ [e], s.2.1, false)
  else if 0 < e.blanks then (s.1 ++ [⟨e.kind, 0, e.indent, e.com⟩], s.2.1 ++ [⟨0, e.blanks, e.indent, none⟩], true)
  else (s.1 ++ [e], s.2.1, true)
def splF (es : List LE) : List LE × List LE × Bool := es.foldl splS ([], [], false)

theorem splF_succ (es : List LE) (k : Nat) (e : LE) (h : es[k]? = some e) : splF (es.take (k + 1)) = splS (splF (es.take k)) e := by
  unfold splF
  rw [List.take_add_one, h]
  simp [List.foldl_append]
theorem fapp_le (es : List LE) (e : LE) : (fapp es e).length ≤ es.length + 2 := by
  unfold fapp bumpLast
  split
  · split
    · simp
    · split
      · simp
      · simp
  · split
    · simp
    · simp
theorem splS_le (s : List LE × List LE × Bool) (e : LE) : (splS s e).1.length ≤ s.1.length + 1 ∧ (splS s e).2.1.length ≤ s.2.1.length + 2 := by
  unfold splS
  split
  · exact ⟨by simp, fapp_le _ _⟩
  · split
    · simp
    · split
      · simp
      · simp
theorem foldl_le (es : List LE) : ∀ s : List LE × List LE × Bool, (es.foldl splS s).1.length ≤ s.1.length + es.length ∧ (es.foldl splS s).2.1.length ≤ s.2.1.length + 2 * es.length := by
  induction es with
  | nil => intro s; simp
  | cons e es ih =>
    intro s
    have h1 := ih (splS s e)
    have h2 := splS_le s e
    rw [List.foldl_cons, List.length_cons]
    omega
theorem splF_le (es : List LE) : (splF es).1.length ≤ es.length ∧ (splF es).2.1.length ≤ 2 * es.length := by
  have := foldl_le es ([], [], false)
  simpa [splF] using this
/-- Ahead of the cut nothing lies in the second half. -/
theorem splF_ahead (es : List LE) : (splF es).2.2 = false → (splF es).2.1 = [] := by
  have : ∀ (es : List LE) (s : List LE × List LE × Bool), (s.2.2 = false → s.2.1 = []) → ((es.foldl splS s).2.2 = false → (es.foldl splS s).2.1 = []) := by
    intro es
    induction es with
    | nil => intro s h; exact h
    | cons e es ih =>
      intro s h
      rw [List.foldl_cons]
      refine ih _ ?_
      unfold splS
      split
      · intro h2; simp at h2
      · split
        · next h3 h4 => intro _; exact h (by simpa using h3)
        · split
          · intro h2; simp at h2
          · intro h2; simp at h2
  exact this es _ fun _ => rfl
end Go.Proofs.YtakhhnjnohnllaaFmt
