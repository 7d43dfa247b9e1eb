/- The small functions beside the passes: a new pass, what it remembers, the walk's contract at any numbers. -/
import Derived.Test.YtofhjpmkpgbgiaaPas
namespace Go.Proofs.Ytofhjpmkpgbgiaa
open Go.RowKit
set_option linter.unusedVariables false

theorem new_any (w : World) : Calls Try.prog 16 #[] w fun e w' => e = .returned (.pointer (some ⟨w.heap.size, 0, none⟩)) ∧ w.alloc (.cells #[.slice none 0 0] 60) = w' := by
  go_enter Try.func16, Try.ntmps16
  go_wp2
  go_ret
  exact ⟨rfl, rfl⟩
theorem got_any (w : World) (c : Nat) (cv : Value) (h : Blk w c 60 #[cv]) : Calls Try.prog 20 #[.pointer (some ⟨c, 0, none⟩)] w fun e w' => e = .returned cv ∧ w = w' := by
  have h0 := h.cell 0
  simp at h0
  have hl := h.lt
  clear h
  go_enter Try.func20, Try.ntmps20
  go_wp2
  go_ret
  exact ⟨rfl, rfl⟩
theorem walk_at (w : World) (vs vg : Value) (fs fg : Option (List LE)) (pre post : List LE) (hs : FodV w (Old w) vs fs) (hg : FodV w (Old w) vg fg) (hgs : fg.getD [] = pre ++ keep (fs.getD []) ++ post) (j k : Nat) (hj : pre.length = j) (hk : pre.length + (keep (fs.getD [])).length = k) :
    Calls Try.prog 23 #[vs, vg, .int .i64 j] w (Walked w k) := by
  subst hj hk
  exact walk_any w vs vg fs fg pre post hs hg hgs
theorem FodV.later {w w' : World} {S : Nat → Prop} {v : Value} {f : Option (List LE)} (h : FodV w S v f) (hb : Below w.heap.size w w') (hS : ∀ b, S b → b < w.heap.size) : FodV w' S v f := h.keep (Agree.of_below hb hS)
theorem FodV.is_slice {w : World} {S : Nat → Prop} {v : Value} {f : Option (List LE)} (h : FodV w S v f) : ∃ a l cp, v = .slice a l cp ∧ l = (f.getD []).length := by
  obtain ⟨a, cp, h1, _⟩ := h.open
  exact ⟨_, _, _, h1, rfl⟩
theorem inF_len (a : Option Addr) (zs : List ZE) : ((inF a zs).getD []).length ≤ zs.length := by
  cases a with
  | none => simp [inF]
  | some x => simp [inF]
end Go.Proofs.Ytofhjpmkpgbgiaa
