/- ZZfileOverNull: a null literal built, the pass over it, its fields handed out. -/
import Derived.Test.YtofhjpmkpgbgiaaFlf
namespace Go.Proofs.Ytofhjpmkpgbgiaa
open Go.RowKit
set_option linter.unusedVariables false

theorem results_tmp5 {fn : Func} {t u v x y : Tmp} (h : fn.results = #[.tmp t, .tmp u, .tmp v, .tmp x, .tmp y]) (tmps : Array Value) (P : Program) (w : World) :
    (results fn tmps).run P w = .ok (.tuple #[tmps.getD t undef, tmps.getD u undef, tmps.getD v undef, tmps.getD x undef, tmps.getD y undef]) w := by simp [results, h]

def Over (w : World) (c : Nat) (T S : Nat → Prop) (L : List LE) (line col : Int) (e : Ending) (w' : World) : Prop :=
  ∃ a l cp h, e = .returned (.tuple #[.slice a l cp, .bool true, .int .i64 line, .int .i64 col, .slice none 0 0]) ∧ FodV w' (fun b => S b ∨ ((T b ∨ w.heap.size ≤ b) ∧ b < w'.heap.size)) (.slice a l cp) h ∧ h.getD [] = L ∧ Fr w w' (fun b => b = c ∨ T b)

set_option maxRecDepth 100000 in
set_option maxHeartbeats 3200000 in
theorem over_null (w : World) (c : Nat) (T S : Nat → Prop) (L : List LE) (x : Option Addr) (l cp : Nat) (x2 : Option Addr) (l2 cp2 : Nat) (line col : Int) (f g : Option (List LE))
    (h : Pass w c T S L) (hf : FodV w S (.slice x l cp) f) (hg : FodV w S (.slice x2 l2 cp2) g) (hS : ∀ b, S b → b < w.heap.size ∧ b ≠ c ∧ ¬ T b) (hT : ∀ b, T b → b < w.heap.size)
    (hL : L.length ≤ 8388608) (hfl : (f.getD []).length ≤ 4194304) (hgl : (g.getD []).length ≤ 4194304) (hal : (L ++ keep (f.getD []) ++ keep (g.getD [])).length ≤ 16777216) :
    Calls Try.prog 17 #[.pointer (some ⟨c, 0, none⟩), .slice x l cp, .slice x2 l2 cp2, .int .i64 line, .int .i64 col] w (Over w c T S (L ++ keep (f.getD []) ++ keep (g.getD [])) line col) := by
  unfold Over
  have cl := h.lt
  obtain ⟨W, hW⟩ : ∃ W, W = ((w.alloc (.cells #[.slice x2 l2 cp2] 26)).alloc (.cells (nullA (.slice x l cp) line col) 74)).alloc (.cells #[.iface 61 (.pointer (some ⟨w.heap.size + 1, 0, none⟩))] 76) := ⟨_, rfl⟩
  have hb : Below w.heap.size w W := by
    rw [hW]
    exact (((Below.refl _ _).alloc (Nat.le_refl _) _).alloc (by simp) _).alloc (by simp; omega) _
  have hsz : W.heap.size = w.heap.size + 3 := by rw [hW]; simp
  have bp : Blk W w.heap.size 26 #[.slice x2 l2 cp2] := by
    rw [hW]
    exact ((Blk.new w 26 #[.slice x2 l2 cp2]).alloc _).alloc _
  have bl : Blk W (w.heap.size + 1) 74 (nullA (.slice x l cp) line col) := by
    rw [hW]
    have := (Blk.new (w.alloc (.cells #[.slice x2 l2 cp2] 26)) 74 (nullA (.slice x l cp) line col)).alloc (.cells #[.iface 61 (.pointer (some ⟨w.heap.size + 1, 0, none⟩))] 76)
    simpa using this
  have bn : Blk W (w.heap.size + 2) 76 #[.iface 61 (.pointer (some ⟨w.heap.size + 1, 0, none⟩))] := by
    rw [hW]
    have := Blk.new ((w.alloc (.cells #[.slice x2 l2 cp2] 26)).alloc (.cells (nullA (.slice x l cp) line col) 74)) 76 #[.iface 61 (.pointer (some ⟨w.heap.size + 1, 0, none⟩))]
    simpa using this
  have K := Lib.hid (file_any W c (w.heap.size + 2) (w.heap.size + 1) w.heap.size T S L x l cp line col f g (.slice x2 l2 cp2) (h.below hb fun b hb => (hS b hb).1) ⟨bn, bl⟩ (hf.later hb fun b hb => (hS b hb).1) bp (hg.later hb fun b hb => (hS b hb).1)
    (fun b hb => by have := hS b hb; exact ⟨by omega, this.2.1, by omega, by omega, by omega, this.2.2⟩) ⟨fun h => by have := hT _ h; omega, fun h => by have := hT _ h; omega, fun h => by have := hT _ h; omega⟩ ⟨by omega, by omega, by omega, by omega, by omega⟩ hL hfl hgl hal)
  have HW := Lib.hid hW
  have HT := Lib.hid hT
  have HS := Lib.hid hS
  have HB := Lib.hid hb
  simp only [nullA] at hW
  clear h hf hg hS hT hfl hgl hal bp bl bn hb
  go_enter Try.func17, Try.ntmps17
  go_wp2_with fail
  rw [← hW]
  clear hW
  refine K.out.mono ?_
  rintro e w1 ⟨rfl, ln, a, l', cp', h, n1, b1, fo, hL2, fr1⟩
  have s1 := fr1.size
  have m0 := n1.1.cell 0
  have l0 := n1.2.cell 0
  have l5 := n1.2.cell 5
  have l6 := n1.2.cell 6
  have p0 := b1.cell 0
  simp [nullA] at m0 l0 l5 l6 p0
  have ml := n1.1.lt
  have ll := n1.2.lt
  have pl := b1.lt
  have FO := Lib.hid fo
  have HL2 := Lib.hid hL2
  have FR1 := Lib.hid fr1
  clear n1 b1 fo hL2 fr1 K
  go_wp2_with fail
  go_quiet (fail)
  go_wp2_with fail
  refine bodyPost_ret (results_tmp5 rfl _ _ _) rfl ?_
  refine ⟨a, l', cp', h, rfl, ?_, HL2.out, ?_⟩
  · refine (FO.out.keep (w' := w1.drewN _) (Agree.refl _ _)).sub fun b hb => ?_
    rcases hb with hb | ⟨hb | hb, hb2⟩
    · exact .inl hb
    · exact .inr ⟨.inl hb, hb2⟩
    · exact .inr ⟨.inr (by omega), hb2⟩
  · refine ⟨FR1.out.os.trans HB.out.os, FR1.out.tape.trans HB.out.tape, FR1.out.output.trans HB.out.output, Nat.le_trans HB.out.size s1, fun b hb hx => (FR1.out.block b (by omega) ?_).trans (HB.out.block b hb)⟩
    rintro (h | h | h | h | h)
    · exact hx (.inl h)
    · omega
    · omega
    · omega
    · exact hx (.inr h)
end Go.Proofs.Ytofhjpmkpgbgiaa
