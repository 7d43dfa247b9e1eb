/- StripAllButComments.File over a null literal. -/
import Derived.Test.YtofhjpmkpgbgiaaFle
import Derived.Deep.RegionLaw
namespace Go.Proofs.Ytofhjpmkpgbgiaa
open Go.RowKit
set_option linter.unusedVariables false

def FileLeft (w : World) (c nd p : Nat) (T S X : Nat → Prop) (L : List LE) (line col : Int) (e : Ending) (w' : World) : Prop :=
  e = .returned (.tuple #[]) ∧ ∃ ln a l cp h, Node w' nd ln (.slice a l cp) line col ∧ Blk w' p 26 #[.slice none 0 0] ∧ FodV w' (fun b => S b ∨ ((T b ∨ w.heap.size ≤ b) ∧ b < w'.heap.size)) (.slice a l cp) h ∧ h.getD [] = L ∧ Fr w w' X

set_option maxRecDepth 100000 in
set_option maxHeartbeats 3200000 in
theorem file_any (w : World) (c nd ln p : Nat) (T S : Nat → Prop) (L : List LE) (x : Option Addr) (l cp : Nat) (line col : Int) (f g : Option (List LE)) (vf : Value)
    (h : Pass w c T S L) (hn : Node w nd ln (.slice x l cp) line col) (hf : FodV w S (.slice x l cp) f) (hp : Blk w p 26 #[vf]) (hg : FodV w S vf g)
    (hS : ∀ b, S b → b < w.heap.size ∧ b ≠ c ∧ b ≠ nd ∧ b ≠ ln ∧ b ≠ p ∧ ¬ T b) (hT : ¬ T nd ∧ ¬ T ln ∧ ¬ T p) (hc : c ≠ nd ∧ c ≠ ln ∧ c ≠ p ∧ p ≠ nd ∧ p ≠ ln) (hL : L.length ≤ 8388608) (hfl : (f.getD []).length ≤ 4194304) (hgl : (g.getD []).length ≤ 4194304) (hal : (L ++ keep (f.getD []) ++ keep (g.getD [])).length ≤ 16777216) :
    Calls Try.prog 28 #[.pointer (some ⟨c, 0, none⟩), .iface 38 (.pointer (some ⟨c, 0, none⟩)), .pointer (some ⟨nd, 0, none⟩), .pointer (some ⟨p, 0, none⟩)] w (FileLeft w c nd p T S (fun b => b = c ∨ b = ln ∨ b = p ∨ b = nd ∨ T b) (L ++ keep (f.getD []) ++ keep (g.getD [])) line col) := by
  unfold FileLeft
  obtain ⟨cv, hbc⟩ := h.cell
  have hpa := partAt0 (P := Try.prog) hbc (by kernel_rfl)
  have K := Lib.hid (base_file w c nd ln p T S L x l cp line col f g (.pointer (some ⟨c, 0, none⟩)) vf h hn hf hp hg hS hT hc hL hfl)
  have HS := Lib.hid hS
  have HT := Lib.hid hT
  have HAL := Lib.hid hal
  have cl := hbc.lt
  have pl := hp.lt
  have nl := hn.1.lt
  clear h hn hf hp hg hS hT hfl hbc hgl hal
  go_enter Try.func28, Try.ntmps28
  go_wp2_with fail
  refine K.out.mono ?_
  rintro e w1 ⟨rfl, p1, n1, b1, fr1⟩
  have s1 := fr1.size
  obtain ⟨cv, fv, bc, fo, hfv⟩ := p1.fod HAL.out
  obtain ⟨x7, l7, c7, rfl, -⟩ := fo.is_slice
  have hnl : nd ≠ ln := n1.ne
  have hln : ln ≠ nd := fun e => hnl e.symm
  have m0 := n1.1.cell 0
  have l3 := n1.2.cell 3
  have l4 := n1.2.cell 4
  have l5 := n1.2.cell 5
  have l6 := n1.2.cell 6
  have l7' := n1.2.cell 7
  have l8 := n1.2.cell 8
  have k0 := bc.cell 0
  simp [nullA] at m0 l3 l4 l5 l6 l7' l8 k0
  have ml := n1.1.lt
  have ll := n1.2.lt
  have kl := bc.lt
  have mf := n1.1.free 0
  have P1 := Lib.hid p1
  have N1 := Lib.hid n1
  have B1 := Lib.hid b1
  have FR1 := Lib.hid fr1
  have FO := Lib.hid fo
  have HFV := Lib.hid hfv
  have q0 := b1.cell 0
  simp at q0
  have ql := b1.lt
  have qf := b1.free 0
  obtain ⟨hc1, hc2, hc3, hc4, hc5⟩ := hc
  clear p1 n1 b1 fr1 fo hfv K bc
  go_wp2_with fail
  go_region_law (first | (go_simp; go_invoke; go_simp; go_at_call 77; refine (loc_any _ ln).mono ?_; rintro e w2 ⟨rfl, rfl⟩))
  all_goals
    go_wp2_with fail
    go_end0
    obtain ⟨v, hv⟩ : ∃ v : Value, v = .iface 61 (.pointer (some ⟨w1.heap.size, 0, none⟩)) := ⟨_, rfl⟩
    rw [← hv]
    have fa : Fr w1 ((w1.setCell ⟨nd, 0, none⟩ v).setCell ⟨p, 0, none⟩ (.slice none 0 0)) (fun b => b = nd ∨ b = p) := ((Fr.refl w1 _).setCell ⟨nd, 0, none⟩ v (.inl (.inl rfl))).setCell ⟨p, 0, none⟩ (.slice none 0 0) (.inl (.inr rfl))
    have hsz : ((w1.setCell ⟨nd, 0, none⟩ v).setCell ⟨p, 0, none⟩ (.slice none 0 0)).heap.size = w1.heap.size := by simp
    have bnd : Blk ((w1.setCell ⟨nd, 0, none⟩ v).setCell ⟨p, 0, none⟩ (.slice none 0 0)) nd 76 #[v] := by
      have h1 := N1.out.1.set 0 v
      simp at h1
      exact h1.far (p := ⟨p, 0, none⟩) (fun e => hc4 e.symm) _
    have bp : Blk ((w1.setCell ⟨nd, 0, none⟩ v).setCell ⟨p, 0, none⟩ (.slice none 0 0)) p 26 #[.slice none 0 0] := by
      have h1 := (B1.out.far (p := ⟨nd, 0, none⟩) hc4 v).set 0 (.slice none 0 0)
      simpa using h1
    have bnew := Blk.new ((w1.setCell ⟨nd, 0, none⟩ v).setCell ⟨p, 0, none⟩ (.slice none 0 0)) 74 (nullA (.slice x7 l7 c7) line col)
    have ag : Agree (fun b => S b ∨ (T b ∨ w.heap.size ≤ b ∧ b < w1.heap.size) ∧ b < w1.heap.size) w1 ((w1.setCell ⟨nd, 0, none⟩ v).setCell ⟨p, 0, none⟩ (.slice none 0 0)) := by
      refine fa.agree fun b hb => ?_
      rcases hb with hb | ⟨hb | hb, hb2⟩
      · have := HS.out b hb
        exact ⟨by omega, by rintro (h | h); exact this.2.2.1 h; exact this.2.2.2.2.1 h⟩
      · exact ⟨hb2, by rintro (rfl | rfl); exact HT.out.1 hb; exact HT.out.2.2 hb⟩
      · exact ⟨hb2, by rintro (h | h) <;> omega⟩
    have fo2 := FO.out.keep ag
    generalize (w1.setCell ⟨nd, 0, none⟩ v).setCell ⟨p, 0, none⟩ (.slice none 0 0) = W2 at *
    rw [hsz] at bnew
    refine ⟨rfl, w1.heap.size, x7, l7, c7, fv, ⟨?_, ?_⟩, ?_, ?_, HFV.out, ?_⟩
    · rw [← hv]; exact (bnd.alloc _).drew
    · exact bnew.drew
    · exact (bp.alloc _).drew
    · refine ((fo2.keep (Agree.alloc _ W2 _ fun b hb => ?_)).keep (Agree.drew _ _)).sub fun b hb => ?_
      · rw [hsz]
        rcases hb with hb | hb
        · have := (HS.out b hb).1
          omega
        · exact hb.2
      · rcases hb with hb | ⟨hb | hb, hb2⟩
        · exact .inl hb
        · refine .inr ⟨.inl hb, ?_⟩
          show b < (W2.alloc _).heap.size
          simp
          omega
        · refine .inr ⟨.inr hb.1, ?_⟩
          show b < (W2.alloc _).heap.size
          simp
          omega
    · refine Fr.drew (Fr.alloc ⟨fa.os.trans FR1.out.os, fa.tape.trans FR1.out.tape, fa.output.trans FR1.out.output, by rw [hsz]; exact s1, fun b hb hx => (fa.block b (by omega) ?_).trans (FR1.out.block b hb ?_)⟩ _)
      · rintro (h | h)
        · exact hx (.inr (.inr (.inr (.inl h))))
        · exact hx (.inr (.inr (.inl h)))
      · rintro (h | h | h | h)
        · exact hx (.inl h)
        · exact hx (.inr (.inl h))
        · exact hx (.inr (.inr (.inl h)))
        · exact hx (.inr (.inr (.inr (.inr h))))
end Go.Proofs.Ytofhjpmkpgbgiaa
