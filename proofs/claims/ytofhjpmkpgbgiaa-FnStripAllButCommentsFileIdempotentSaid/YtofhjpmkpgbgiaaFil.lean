/- The comment-only pass over a file that is one null literal. -/
import Derived.Test.YtofhjpmkpgbgiaaNew
import Derived.Test.YtofhjpmkpgbgiaaPro
namespace Go.Proofs.Ytofhjpmkpgbgiaa
open Go.RowKit
set_option linter.unusedVariables false

def nullA (op : Value) (line col : Int) : Array Value := #[op, .pointer none, .slice none 0 0, .pointer none, .string ⟨#[]⟩, .int .i64 line, .int .i64 col, .int .i64 0, .int .i64 0]

/-- The node's variable and the null literal that it points to. -/
def Node (w : World) (nd ln : Nat) (op : Value) (line col : Int) : Prop := Blk w nd 76 #[.iface 61 (.pointer (some ⟨ln, 0, none⟩))] ∧ Blk w ln 74 (nullA op line col)

@[go_sem] theorem ta61_104 (p : Option Addr) (w : World) : (Instr.typeAssert (.iface 61 (.pointer p)) 76 104 true).run Try.prog w = .ok (.tuple #[.pointer none, .bool false]) w := by kernel_rfl
@[go_sem] theorem ta61_106 (p : Option Addr) (w : World) : (Instr.typeAssert (.iface 61 (.pointer p)) 76 106 true).run Try.prog w = .ok (.tuple #[.pointer none, .bool false]) w := by kernel_rfl
@[go_sem] theorem ta61_108 (p : Option Addr) (w : World) : (Instr.typeAssert (.iface 61 (.pointer p)) 76 108 true).run Try.prog w = .ok (.tuple #[.pointer none, .bool false]) w := by kernel_rfl
@[go_sem] theorem ta61_110 (p : Option Addr) (w : World) : (Instr.typeAssert (.iface 61 (.pointer p)) 76 110 true).run Try.prog w = .ok (.tuple #[.pointer none, .bool false]) w := by kernel_rfl
@[go_sem] theorem ta61_112 (p : Option Addr) (w : World) : (Instr.typeAssert (.iface 61 (.pointer p)) 76 112 true).run Try.prog w = .ok (.tuple #[.pointer none, .bool false]) w := by kernel_rfl
@[go_sem] theorem ta61_114 (p : Option Addr) (w : World) : (Instr.typeAssert (.iface 61 (.pointer p)) 76 114 true).run Try.prog w = .ok (.tuple #[.pointer none, .bool false]) w := by kernel_rfl
@[go_sem] theorem ta61_116 (p : Option Addr) (w : World) : (Instr.typeAssert (.iface 61 (.pointer p)) 76 116 true).run Try.prog w = .ok (.tuple #[.pointer none, .bool false]) w := by kernel_rfl
@[go_sem] theorem ta61_118 (p : Option Addr) (w : World) : (Instr.typeAssert (.iface 61 (.pointer p)) 76 118 true).run Try.prog w = .ok (.tuple #[.pointer none, .bool false]) w := by kernel_rfl
@[go_sem] theorem ta61_120 (p : Option Addr) (w : World) : (Instr.typeAssert (.iface 61 (.pointer p)) 76 120 true).run Try.prog w = .ok (.tuple #[.pointer none, .bool false]) w := by kernel_rfl
@[go_sem] theorem ta61_121 (p : Option Addr) (w : World) : (Instr.typeAssert (.iface 61 (.pointer p)) 76 121 true).run Try.prog w = .ok (.tuple #[.pointer none, .bool false]) w := by kernel_rfl
@[go_sem] theorem ta61_123 (p : Option Addr) (w : World) : (Instr.typeAssert (.iface 61 (.pointer p)) 76 123 true).run Try.prog w = .ok (.tuple #[.pointer none, .bool false]) w := by kernel_rfl
@[go_sem] theorem ta61_125 (p : Option Addr) (w : World) : (Instr.typeAssert (.iface 61 (.pointer p)) 76 125 true).run Try.prog w = .ok (.tuple #[.pointer none, .bool false]) w := by kernel_rfl
@[go_sem] theorem ta61_127 (p : Option Addr) (w : World) : (Instr.typeAssert (.iface 61 (.pointer p)) 76 127 true).run Try.prog w = .ok (.tuple #[.pointer none, .bool false]) w := by kernel_rfl
@[go_sem] theorem ta61_129 (p : Option Addr) (w : World) : (Instr.typeAssert (.iface 61 (.pointer p)) 76 129 true).run Try.prog w = .ok (.tuple #[.pointer none, .bool false]) w := by kernel_rfl
@[go_sem] theorem ta61_131 (p : Option Addr) (w : World) : (Instr.typeAssert (.iface 61 (.pointer p)) 76 131 true).run Try.prog w = .ok (.tuple #[.pointer none, .bool false]) w := by kernel_rfl
@[go_sem] theorem ta61_133 (p : Option Addr) (w : World) : (Instr.typeAssert (.iface 61 (.pointer p)) 76 133 true).run Try.prog w = .ok (.tuple #[.pointer none, .bool false]) w := by kernel_rfl
@[go_sem] theorem ta61_61 (p : Option Addr) (w : World) : (Instr.typeAssert (.iface 61 (.pointer p)) 76 61 true).run Try.prog w = .ok (.tuple #[.pointer p, .bool true]) w := by kernel_rfl

theorem openf_any (w : World) (ln : Nat) : Calls Try.prog 78 #[.pointer (some ⟨ln, 0, none⟩)] w fun e w' => e = .returned (.pointer (some ⟨ln, 0, none⟩)) ∧ w = w' := by
  go_enter Try.func78, Try.ntmps78
  go_wp2
  go_ret
  exact ⟨rfl, rfl⟩
theorem loc_any (w : World) (ln : Nat) : Calls Try.prog 77 #[.pointer (some ⟨ln, 0, none⟩)] w fun e w' => e = .returned (.pointer (some ⟨ln, 3, none⟩)) ∧ w = w' := by
  go_enter Try.func77, Try.ntmps77
  go_wp2
  go_ret
  exact ⟨rfl, rfl⟩

theorem null_any (w : World) (a b c d : Value) : Calls Try.prog 64 #[a, b, c, d] w fun e w' => e = .returned (.tuple #[]) ∧ w = w' := by
  go_enter Try.func64, Try.ntmps64
  go_wp2
  go_end0
  exact ⟨rfl, rfl⟩
theorem Node.ne {w : World} {nd ln : Nat} {op : Value} {line col : Int} (hn : Node w nd ln op line col) : nd ≠ ln := by
  rintro rfl
  have h1 := hn.1
  rw [Blk, show w.heap[nd]? = _ from hn.2] at h1
  injection h1 with h1
  injection h1 with _ ht
  exact absurd ht (by decide)
def NodeLeft (w : World) (c nd ln : Nat) (T S : Nat → Prop) (L : List LE) (line col : Int) (e : Ending) (w' : World) : Prop :=
  e = .returned (.tuple #[]) ∧ Pass w' c (fun b => T b ∨ (w.heap.size ≤ b ∧ b < w'.heap.size)) S L ∧ Node w' nd ln (.slice none 0 0) line col ∧ Fr w w' (fun b => b = c ∨ b = ln ∨ T b)
theorem Pass.cell {w : World} {c : Nat} {T S : Nat → Prop} {L : List LE} (h : Pass w c T S L) : ∃ cv, Blk w c 60 #[cv] := by
  obtain ⟨cv, els, h1, _⟩ := h
  exact ⟨cv, h1⟩

set_option maxRecDepth 100000 in
set_option maxHeartbeats 3200000 in
theorem node_visit (w : World) (c nd ln : Nat) (T S : Nat → Prop) (L : List LE) (x : Option Addr) (l cp : Nat) (line col : Int) (f : Option (List LE)) (cx : Value) (bv : Value)
    (h : Pass w c T S L) (hn : Node w nd ln (.slice x l cp) line col) (hf : FodV w S (.slice x l cp) f) (hS : ∀ b, S b → b < w.heap.size ∧ b ≠ c ∧ b ≠ nd ∧ b ≠ ln ∧ ¬ T b) (hT : ¬ T nd ∧ ¬ T ln) (hc : c ≠ nd ∧ c ≠ ln) (hL : L.length ≤ 16777216) :
    Calls Try.prog 48 #[bv, .iface 38 (.pointer (some ⟨c, 0, none⟩)), .pointer (some ⟨nd, 0, none⟩), cx] w (NodeLeft w c nd ln T S (L ++ keep (f.getD [])) line col) := by
  unfold NodeLeft
  have hnl : nd ≠ ln := hn.ne
  have hln : ln ≠ nd := fun e => hnl e.symm
  have n0 := hn.1.cell 0
  have l0 := hn.2.cell 0
  simp [nullA] at n0 l0
  have nl := hn.1.lt
  have ll := hn.2.lt
  have nf := hn.1.free 0
  have lf := hn.2.free 0
  have HNW := Lib.hid (show Node (w.alloc (.cells #[.slice x l cp] 26)) nd ln (.slice x l cp) line col from ⟨hn.1.alloc _, hn.2.alloc _⟩)
  have HFW := Lib.hid ((Fr.refl w (fun b => b = c ∨ b = ln ∨ T b)).alloc (.cells #[.slice x l cp] 26))
  have HP := Lib.hid (h.below ((Below.refl _ _).alloc (Nat.le_refl _) (.cells #[.slice x l cp] 26)) fun b hb => (hS b hb).1)
  have HPF := Lib.hid (Blk.new w 26 #[.slice x l cp])
  have HF := Lib.hid (hf.later ((Below.refl _ _).alloc (Nat.le_refl _) (.cells #[.slice x l cp] 26)) fun b hb => (hS b hb).1)
  have HS := Lib.hid hS
  have HT := Lib.hid hT
  have sW : (w.alloc (.cells #[.slice x l cp] 26)).heap.size = w.heap.size + 1 := by simp
  clear hn h hS hT hf
  go_enter Try.func48, Try.ntmps48
  go_wp2_with fail
  refine (openf_any w ln).mono ?_
  rintro e w1 ⟨rfl, rfl⟩
  go_wp2_with fail
  generalize w.alloc (.cells #[.slice x l cp] 26) = W at *
  refine (visit_pass W c w.heap.size T S L _ f HP.out HPF.out HF.out (fun b hb => by have := HS.out b hb; exact ⟨by omega, this.2.1, by omega, this.2.2.2.2⟩) hL _ _).mono ?_
  rintro e w2 ⟨rfl, p2, b2, fr2⟩
  have HN2 := Lib.hid (show Node w2 nd ln (.slice x l cp) line col from ⟨fr2.blk HNW.out.1 (by rintro (h | h | h); exact hc.1 h.symm; omega; exact HT.out.1 h), fr2.blk HNW.out.2 (by rintro (h | h | h); exact hc.2 h.symm; omega; exact HT.out.2 h)⟩)
  have y0 := HN2.out.1.cell 0
  have z0 := HN2.out.2.cell 0
  simp [nullA] at y0 z0
  have yl := HN2.out.1.lt
  have zl := HN2.out.2.lt
  have yf := HN2.out.1.free 0
  have zf := HN2.out.2.free 0
  have p0 := b2.cell 0
  simp at p0
  have pl := b2.lt
  have sl := ll
  have s2 := fr2.size
  obtain ⟨cv, hbc⟩ := p2.cell
  have HB3 := Lib.hid (show Blk (w2.setCell ⟨ln, 0, none⟩ (.slice none 0 0)).drew c 60 #[cv] from hbc.far (p := ⟨ln, 0, none⟩) hc.2 _)
  have hmet := method_row (P := Try.prog) (t := 38) (fuel := 365) (name := "LiteralNull") (k := 64) HB3.out (by kernel_rfl) (by kernel_rfl)
  have P2 := Lib.hid p2
  have B2 := Lib.hid b2
  have FR2 := Lib.hid fr2
  clear n0 l0 nl ll nf lf p2 b2 fr2 hbc
  go_wp2_with fail
  refine wp_region_tail 6 (by kernel_rfl) (by kernel_rfl) ?_
  simp only [List.take_succ_cons, List.take_zero, List.drop_succ_cons, List.drop_zero]
  repeat still_step
  refine wpStill_step (fun K hK => ?_)
  go_simp
  go_invoke
  go_simp
  refine ⟨_, (openf_any _ ln).mono fun e w1 h => ⟨h.1, h.2.symm⟩, hK _ ?_⟩
  clear hK K
  repeat still_step
  refine wpStill_nil ?_
  go_wp2_with fail
  refine (null_any _ _ _ _ _).mono ?_
  rintro e w3 ⟨rfl, rfl⟩
  go_wp2_with fail
  go_end0
  refine ⟨rfl, ?_, ⟨?_, ?_⟩, ?_⟩
  · refine (P2.out.keep fun b hb => ?_).sub (fun b hb h => ?_) fun b h => h
    · refine Below.heap_setCell w2 ⟨ln, 0, none⟩ (.slice none 0 0) b ?_
      rintro rfl
      rcases hb with h | h | h
      · exact hc.2 h.symm
      · exact (HS.out _ h).2.2.2.1 rfl
      · rcases h.1 with h | h
        · exact HT.out.2 h
        · have h9 : W.heap.size ≤ b := h.1
          omega
    · rcases h with h | h
      · exact .inl h
      · exact .inr ⟨by omega, by simpa using h.2⟩
  · exact HN2.out.1.far (p := ⟨ln, 0, none⟩) hnl _
  · have t := HN2.out.2.set 0 (.slice none 0 0)
    simp [nullA] at t
    exact t
  · have h1 : Fr w w2 (fun b => b = c ∨ b = ln ∨ T b) := by
      refine ⟨FR2.out.os.trans HFW.out.os, FR2.out.tape.trans HFW.out.tape, FR2.out.output.trans HFW.out.output, Nat.le_trans HFW.out.size FR2.out.size, fun b hb hx => (FR2.out.block b (Nat.lt_of_lt_of_le hb HFW.out.size) ?_).trans (HFW.out.block b hb hx)⟩
      rintro (h | h | h)
      · exact hx (.inl h)
      · omega
      · exact hx (.inr (.inr h))
    exact (h1.setCell ⟨ln, 0, none⟩ _ (.inl (.inr (.inl rfl)))).drew
end Go.Proofs.Ytofhjpmkpgbgiaa
