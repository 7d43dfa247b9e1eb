/- FodderHasCleanEndline, MakeFodderElement: contracts; FodderAppend: what it gives, plain. -/
import Derived.Test.YtlaghkppjdphnaaFmtOwn
namespace Go.Proofs.YtlaghkppjdphnaaFmt
open Go.RowKit
set_option linter.unusedVariables false

def isClean (es : List LE) : Bool := match es.getLast? with | some e => e.kind != 1 | none => false
def bumpLast (es : List LE) (bl ind : Int) : List LE := match es[es.length - 1]? with | some e => es.set (es.length - 1) ⟨e.kind, wrap64 (e.blanks + bl), ind, e.com⟩ | none => es
def fapp (es : List LE) (e : LE) : List LE :=
  if isClean es = true ∧ e.kind = 0 then (if 0 < (e.com.getD []).length then es ++ [⟨2, e.blanks, e.indent, e.com⟩] else bumpLast es e.blanks e.indent)
  else if isClean es = false ∧ e.kind = 2 then es ++ [⟨0, 0, e.indent, some []⟩] ++ [e] else es ++ [e]

theorem isClean_nil : isClean [] = false := rfl
theorem isClean_at (es : List LE) (e : LE) (h : es[es.length - 1]? = some e) : isClean es = (e.kind != 1) := by
  unfold isClean
  rw [List.getLast?_eq_getElem?, h]

def Clean (w : World) (b : Bool) (e : Ending) (w' : World) : Prop := e = .returned (.bool b) ∧ w = w'
theorem clean_fod (w : World) (S : Nat → Prop) (a : Option Addr) (n c : Nat) (es : List LE) (h : FodIs w S a es) (hS : ∀ b, S b → b < w.heap.size) (hn : es.length = n) (hm : n ≤ 16777216) :
    Calls Tryf.prog 44 #[.slice a n c] w (Clean w (isClean es)) := by
  unfold Clean
  by_cases h0 : n = 0
  · subst h0
    obtain rfl : es = [] := List.length_eq_zero_iff.1 hn
    rw [isClean_nil]
    clear h hS
    go_enter Tryf.func44, Tryf.ntmps44
    go_wp2
    go_ret
    exact ⟨rfl, rfl⟩
  · have hpos : 0 < n := by omega
    obtain ⟨e, he⟩ : ∃ e, es[n - 1]? = some e := ⟨es[n - 1]'(by omega), by simp⟩
    obtain ⟨b, off, com, rfl, hb, hc, x0, x1, x2, x3⟩ := h.at he
    have hbl := hS b hb
    rw [isClean_at es e (by rw [hn]; exact he)]
    obtain ⟨kd, bl, ind, cm⟩ := e
    simp only at x0 x1 x2 x3
    have hi : ((n : Int) - 1) = ((n - 1 : Nat) : Int) := by omega
    have h1 : (0 : Int) < n := by omega
    have h2 : (n - 1 : Nat) < n := by omega
    clear h hS he hc
    by_cases hk : kd = 1
    · subst hk
      go_enter Tryf.func44, Tryf.ntmps44
      go_wp2
      go_ret
      exact ⟨rfl, rfl⟩
    · have hk1 : (kd == 1) = false := by simpa using hk
      have hk2 : (kd != 1) = true := by simpa using hk
      rw [hk2]
      go_enter Tryf.func44, Tryf.ntmps44
      go_wp2
      go_ret
      exact ⟨rfl, rfl⟩
theorem own_fodIs {w : World} {r : Nat} {S : Nat → Prop} {a : Option Addr} {n c : Nat} {es : List LE} (h : OwnF w r S (.slice a n c) es) : FodIs w (fun b => S b ∨ (b = r ∧ b < w.heap.size)) a es ∧ es.length = n := by
  obtain ⟨els, h1, h2, h3⟩ := h
  rcases h2.2 with ⟨hv, h5⟩ | ⟨g, cap, cur, hv, hb, hg, rest⟩
  · injection hv with e1 e2 e3
    subst e1 e2 e3
    have : es.length = 0 := by rw [← h1.1, h5]
    have h0 := List.length_eq_zero_iff.1 this
    subst h0
    exact ⟨⟨[], ElsAre.nil _ _, .inl rfl⟩, rfl⟩
  · injection hv with e1 e2 e3
    subst e1 e2 e3
    refine ⟨⟨els, h1.sub fun b hb => .inl hb, own_rdS h2 (.inr ⟨h3 g rfl, (Array.getElem?_eq_some_iff.1 hg).1⟩)⟩, h1.1.symm⟩
theorem clean_own (w : World) (r : Nat) (S : Nat → Prop) (a : Option Addr) (n c : Nat) (es : List LE) (h : OwnF w r S (.slice a n c) es) (hS : ∀ b, S b → b < w.heap.size) (hm : es.length ≤ 16777216) :
    Calls Tryf.prog 44 #[.slice a n c] w (Clean w (isClean es)) := by
  obtain ⟨h1, h2⟩ := own_fodIs h
  exact clean_fod w _ a n c es h1 (fun b hb => by rcases hb with hb | hb; exact hS b hb; exact hb.2) h2 (by omega)

/-- MakeFodderElement of a line end with at most one line, of a paragraph with at least one. -/
def MadeE (w : World) (com : Value) (kd bl ind : Int) (e : Ending) (w' : World) : Prop := e = .returned (.agg #[com, .int .i64 kd, .int .i64 bl, .int .i64 ind]) ∧ w.alloc (.cells #[com, .int .i64 kd, .int .i64 bl, .int .i64 ind] 91) = w'
set_option maxRecDepth 100000 in
theorem make_le (w : World) (a : Option Addr) (l c : Nat) (bl ind : Int) (hl : l ≤ 1) : Calls Tryf.prog 46 #[.int .i64 0, .int .i64 bl, .int .i64 ind, .slice a l c] w (MadeE w (.slice a l c) 0 bl ind) := by
  unfold MadeE
  have h1 : decide ((1 : Int) < (l : Int)) = false := by simp; omega
  go_enter Tryf.func46, Tryf.ntmps46
  go_wp2
  exact bodyPost_ret (v := .agg #[.slice a l c, .int .i64 0, .int .i64 bl, .int .i64 ind]) (by simp [results, Tryf.results46, go_sem]) rfl ⟨rfl, rfl⟩
set_option maxRecDepth 100000 in
theorem make_par (w : World) (a : Option Addr) (l c : Nat) (bl ind : Int) (hl : 0 < l) : Calls Tryf.prog 46 #[.int .i64 2, .int .i64 bl, .int .i64 ind, .slice a l c] w (MadeE w (.slice a l c) 2 bl ind) := by
  unfold MadeE
  have h1 : ((l : Int) == 0) = false := by simp; omega
  go_enter Tryf.func46, Tryf.ntmps46
  go_wp2
  exact bodyPost_ret (v := .agg #[.slice a l c, .int .i64 2, .int .i64 bl, .int .i64 ind]) (by simp [results, Tryf.results46, go_sem]) rfl ⟨rfl, rfl⟩
end Go.Proofs.YtlaghkppjdphnaaFmt
