/- The whole-file pass over a null literal. -/
import Derived.Test.YtofhjpmkpgbgiaaFil
namespace Go.Proofs.Ytofhjpmkpgbgiaa
open Go.RowKit
set_option linter.unusedVariables false

theorem ctx_any (w : World) (a b : Value) : Calls Try.prog 46 #[a, b] w fun e w' => e = .returned .nilIface ∧ w = w' := by
  go_enter Try.func46, Try.ntmps46
  go_wp2
  go_ret
  exact ⟨rfl, rfl⟩

def BaseLeft (w : World) (c nd ln p : Nat) (T S : Nat → Prop) (L : List LE) (line col : Int) (e : Ending) (w' : World) : Prop :=
  e = .returned (.tuple #[]) ∧ Pass w' c (fun b => T b ∨ (w.heap.size ≤ b ∧ b < w'.heap.size)) S L ∧ Node w' nd ln (.slice none 0 0) line col ∧ Blk w' p 26 #[.slice none 0 0] ∧ Fr w w' (fun b => b = c ∨ b = ln ∨ b = p ∨ T b)

set_option maxRecDepth 100000 in
set_option maxHeartbeats 3200000 in
theorem base_file (w : World) (c nd ln p : Nat) (T S : Nat → Prop) (L : List LE) (x : Option Addr) (l cp : Nat) (line col : Int) (f g : Option (List LE)) (bv vf : Value)
    (h : Pass w c T S L) (hn : Node w nd ln (.slice x l cp) line col) (hf : FodV w S (.slice x l cp) f) (hp : Blk w p 26 #[vf]) (hg : FodV w S vf g)
    (hS : ∀ b, S b → b < w.heap.size ∧ b ≠ c ∧ b ≠ nd ∧ b ≠ ln ∧ b ≠ p ∧ ¬ T b) (hT : ¬ T nd ∧ ¬ T ln ∧ ¬ T p) (hc : c ≠ nd ∧ c ≠ ln ∧ c ≠ p ∧ p ≠ nd ∧ p ≠ ln) (hL : L.length ≤ 8388608) (hfl : (f.getD []).length ≤ 4194304) :
    Calls Try.prog 30 #[bv, .iface 38 (.pointer (some ⟨c, 0, none⟩)), .pointer (some ⟨nd, 0, none⟩), .pointer (some ⟨p, 0, none⟩)] w (BaseLeft w c nd ln p T S (L ++ keep (f.getD []) ++ keep (g.getD [])) line col) := by
  unfold BaseLeft
  obtain ⟨cv, hbc⟩ := h.cell
  have hm1 := method_row (P := Try.prog) (t := 38) (fuel := 365) (name := "BaseContext") (k := 46) hbc (by kernel_rfl) (by kernel_rfl)
  have hm2 := method_row (P := Try.prog) (t := 38) (fuel := 365) (name := "Visit") (k := 48) hbc (by kernel_rfl) (by kernel_rfl)
  have K := Lib.hid (node_visit w c nd ln T S L x l cp line col f .nilIface (.pointer (some ⟨c, 0, none⟩)) h hn hf (fun b hb => by have := hS b hb; exact ⟨this.1, this.2.1, this.2.2.1, this.2.2.2.1, this.2.2.2.2.2⟩) ⟨hT.1, hT.2.1⟩ ⟨hc.1, hc.2.1⟩ (by omega))
  have HP := Lib.hid hp
  have HG := Lib.hid hg
  have HS := Lib.hid hS
  have HT := Lib.hid hT
  have HF := Lib.hid hfl
  have pw := hp.lt
  have nw := hn.1.lt
  have lw := hn.2.lt
  clear h hn hf hp hg hS hT hfl hbc
  go_enter Try.func30, Try.ntmps30
  go_wp2_with fail
  refine (ctx_any _ _ _).mono ?_
  rintro e w1 ⟨rfl, rfl⟩
  go_wp2_with fail
  refine K.out.mono ?_
  rintro e w1 ⟨rfl, p1, n1, fr1⟩
  have s1 := fr1.size
  have ag : Agree S w w1 := fr1.agree fun b hb => ⟨(HS.out b hb).1, by have := HS.out b hb; rintro (h | h | h); exact this.2.1 h; exact this.2.2.2.1 h; exact this.2.2.2.2.2 h⟩
  have K2 := Lib.hid (visit_pass w1 c p _ S _ vf g p1 (fr1.blk HP.out (by rintro (h | h | h); exact hc.2.2.1 h.symm; exact hc.2.2.2.2 h; exact HT.out.2.2 h)) (HG.out.keep ag) (fun b hb => by have := HS.out b hb; exact ⟨by omega, this.2.1, this.2.2.2.2.1, by rintro (h | h); exact this.2.2.2.2.2 h; omega⟩) (by rw [List.length_append]; have := keep_le (f.getD []); have := HF.out; omega) (.iface 38 (.pointer (some ⟨c, 0, none⟩))) .nilIface)
  have N1 := Lib.hid n1
  have FR1 := Lib.hid fr1
  clear p1 n1 fr1 ag K HP HG hm1 hm2
  go_wp2_with fail
  refine K2.out.mono ?_
  rintro e w2 ⟨rfl, p2, b2, fr2⟩
  have s2 := fr2.size
  have P2 := Lib.hid p2
  have B2 := Lib.hid b2
  have FR2 := Lib.hid fr2
  clear p2 b2 fr2 K2
  go_wp2_with fail
  go_end0
  refine ⟨rfl, P2.out.sub (fun b hb h => ?_) (fun b h => h), ⟨FR2.out.blk N1.out.1 ?_, FR2.out.blk N1.out.2 ?_⟩, B2.out, ?_⟩
  · rcases h with (h | h) | h
    · exact .inl h
    · exact .inr ⟨h.1, hb⟩
    · exact .inr ⟨by omega, hb⟩
  · rintro (h | h | h | h)
    · exact hc.1 h.symm
    · exact hc.2.2.2.1 h.symm
    · exact HT.out.1 h
    · omega
  · rintro (h | h | h | h)
    · exact hc.2.1 h.symm
    · exact hc.2.2.2.2 h.symm
    · exact HT.out.2.1 h
    · omega
  · refine ⟨FR2.out.os.trans FR1.out.os, FR2.out.tape.trans FR1.out.tape, FR2.out.output.trans FR1.out.output, Nat.le_trans s1 s2, fun b hb hx => (FR2.out.block b (by omega) ?_).trans (FR1.out.block b hb ?_)⟩
    · rintro (h | h | h | h)
      · exact hx (.inl h)
      · exact hx (.inr (.inr (.inl h)))
      · exact hx (.inr (.inr (.inr h)))
      · omega
    · rintro (h | h | h)
      · exact hx (.inl h)
      · exact hx (.inr (.inl h))
      · exact hx (.inr (.inr (.inr h)))
end Go.Proofs.Ytofhjpmkpgbgiaa
