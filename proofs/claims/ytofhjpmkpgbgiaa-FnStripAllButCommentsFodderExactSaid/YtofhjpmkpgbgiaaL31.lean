/- The walk of the law on what one pass remembers over two fodders. -/
import Derived.Test.YtofhjpmkpgbgiaaNew
import Derived.Test.YtofhjpmkpgbgiaaGrm
import Derived.Test.YtofhjpmkpgbgiaaSiz
namespace Go.Proofs.Ytofhjpmkpgbgiaa
open Go.RowKit
set_option linter.unusedVariables false

set_option maxRecDepth 100000 in
set_option maxHeartbeats 3200000 in
theorem law31 (a : Option Addr) (n c : Nat) (zs : List ZE) (a2 : Option Addr) (n2 c2 : Nat) (zs2 : List ZE) (w : World) (h : IsZs w a n c zs) (h2 : IsZs w a2 n2 c2 zs2) :
    Calls Try.prog 6 #[.slice a n c, .slice a2 n2 c2] w fun e w' => e = .returned (.bool true) ∧ Below w.heap.size w w' := by
  have G := Lib.hid (guard22 w a n c zs a2 n2 c2 zs2 h h2)
  have SZ := Lib.hid (size_any w a n c zs h)
  have SZ2 := Lib.hid (size_any w a2 n2 c2 zs2 h2)
  have H := Lib.hid h
  have H2 := Lib.hid h2
  clear h h2
  go_enter Try.func6, Try.ntmps6
  go_wp2_with fail
  refine G.out.mono ?_
  rintro e w1 ⟨r, rfl, rfl, hr⟩
  cases r
  · go_wp2_with fail
    go_ret
    exact ⟨rfl, Below.refl _ _⟩
  have HR := Lib.hid (hr rfl)
  clear hr G
  go_wp2_with fail
  refine SZ.out.mono ?_
  rintro e w1 ⟨m, rfl, rfl, hm⟩
  clear SZ
  go_wp2_with fail
  refine SZ2.out.mono ?_
  rintro e w1 ⟨m2, rfl, rfl, hm2⟩
  clear SZ2
  by_cases hmm : 1048576 < (m : Int) + m2
  · go_wp2_with fail
    go_ret
    exact ⟨rfl, Below.refl _ _⟩
  have hz := HR.out (n, zs) (by simp)
  have hz2 := HR.out (n2, zs2) (by simp)
  have T := Lib.hid fun w' (hw : IsZs w' a n c zs) => tofod_any w' a n c zs hw hz.1 hz.2
  have T2 := Lib.hid fun w' (hw : IsZs w' a2 n2 c2 zs2) => tofod_any w' a2 n2 c2 zs2 hw hz2.1 hz2.2
  have hfl : ((inF a zs).getD []).length ≤ 1048576 := by have := inF_len a zs; have := H.out.1; have := hz.1; simp at *; omega
  have hgl : ((inF a2 zs2).getD []).length ≤ 1048576 := by have := inF_len a2 zs2; have := H2.out.1; have := hz2.1; simp at *; omega
  have HFL := Lib.hid hfl
  have HGL := Lib.hid hgl
  clear HR hz hz2 hfl hgl
  generalize inF a zs = f at *
  generalize inF a2 zs2 = g at *
  go_wp2_with fail
  refine (T.out w H.out).mono ?_
  rintro e w1 ⟨va, rfl, hv, hb⟩
  obtain ⟨x, lx, cx, rfl, -⟩ := hv.is_slice
  have HB := Lib.hid (hb.alloc hb.size (.cells #[.slice x lx cx] 26))
  have HA := Lib.hid (hv.keep (Agree.alloc _ w1 (.cells #[.slice x lx cx] 26) fun b h => h.2))
  have HPA := Lib.hid (Blk.new w1 26 #[.slice x lx cx])
  have s1 := hb.size
  have HI := Lib.hid (H.out.below HB.out)
  have HI2 := Lib.hid (H2.out.below HB.out)
  have s1' : (w1.alloc (.cells #[.slice x lx cx] 26)).heap.size = w1.heap.size + 1 := by simp
  clear hv hb H H2
  go_wp2_with fail
  generalize w1.alloc (.cells #[.slice x lx cx] 26) = W1 at *
  refine (T2.out W1 HI2.out).mono ?_
  rintro e w2 ⟨vb, rfl, hv, hb⟩
  obtain ⟨y, ly, cy, rfl, -⟩ := hv.is_slice
  have s2 := hb.size
  have HB2 := Lib.hid ((HB.out.trans (hb.mono HB.out.size)).alloc (Nat.le_trans HB.out.size s2) (.cells #[.slice y ly cy] 26))
  have HA2 := Lib.hid ((HA.out.later hb fun b h => by have := h.2; omega).keep (Agree.alloc _ w2 (.cells #[.slice y ly cy] 26) fun b h => by have := h.2; omega))
  have HPA2 := Lib.hid ((HPA.out.under hb).alloc (.cells #[.slice y ly cy] 26))
  have HBB := Lib.hid (hv.keep (Agree.alloc _ w2 (.cells #[.slice y ly cy] 26) fun b h => h.2))
  have HPB := Lib.hid (Blk.new w2 26 #[.slice y ly cy])
  have HIb := Lib.hid ((HI.out.below hb).below ((Below.refl _ _).alloc (Nat.le_refl _) (.cells #[.slice y ly cy] 26)))
  have HI2b := Lib.hid ((HI2.out.below hb).below ((Below.refl _ _).alloc (Nat.le_refl _) (.cells #[.slice y ly cy] 26)))
  have s2' : (w2.alloc (.cells #[.slice y ly cy] 26)).heap.size = w2.heap.size + 1 := by simp
  clear hv hb HB HA HPA HI HI2
  go_wp2_with fail
  generalize w2.alloc (.cells #[.slice y ly cy] 26) = W2 at *
  refine (T.out W2 HIb.out).mono ?_
  rintro e w3 ⟨voa, rfl, hv, hb⟩
  obtain ⟨x3, l3, c3, rfl, -⟩ := hv.is_slice
  have s3 := hb.size
  have HB3 := Lib.hid (HB2.out.trans (hb.mono HB2.out.size))
  have HA3 := Lib.hid (HA2.out.later hb fun b h => by have := h.2; omega)
  have HPA3 := Lib.hid (HPA2.out.under hb)
  have HBB3 := Lib.hid (HBB.out.later hb fun b h => by have := h.2; omega)
  have HPB3 := Lib.hid (HPB.out.under hb)
  have HOA := Lib.hid hv
  have HIc := Lib.hid (HI2b.out.below hb)
  clear hv hb HB2 HA2 HPA2 HBB HPB HIb HI2b T
  go_wp2_with fail
  refine (T2.out w3 HIc.out).mono ?_
  rintro e w4 ⟨vob, rfl, hv, hb⟩
  obtain ⟨x4, l4, c4, rfl, -⟩ := hv.is_slice
  have s4 := hb.size
  have HB4 := Lib.hid (HB3.out.trans (hb.mono HB3.out.size))
  have HA4 := Lib.hid (HA3.out.later hb fun b h => by have := h.2; omega)
  have HPA4 := Lib.hid (HPA3.out.under hb)
  have HBB4 := Lib.hid (HBB3.out.later hb fun b h => by have := h.2; omega)
  have HPB4 := Lib.hid (HPB3.out.under hb)
  have HOA4 := Lib.hid (HOA.out.later hb fun b h => h.2)
  have HOB := Lib.hid hv
  clear hv hb HB3 HA3 HPA3 HBB3 HPB3 HOA HIc T2
  go_wp2_with fail
  refine (new_any w4).mono ?_
  rintro e w5 ⟨rfl, hw5⟩
  obtain ⟨S, hS⟩ : ∃ S : Nat → Prop, S = fun b => b < w4.heap.size ∧ b ≠ w1.heap.size ∧ b ≠ w2.heap.size := ⟨_, rfl⟩
  have al := Agree.alloc (Old w4) w4 (.cells #[.slice none 0 0] 60) fun b h => h
  rw [hw5] at al
  have s5 : w5.heap.size = w4.heap.size + 1 := by rw [← hw5]; simp
  have HB5 := Lib.hid (HB4.out.alloc HB4.out.size (.cells #[.slice none 0 0] 60))
  have P5 := Lib.hid (Pass.fresh w4 S)
  have HPA5 := Lib.hid (HPA4.out.alloc (.cells #[.slice none 0 0] 60))
  have HPB5 := Lib.hid (HPB4.out.alloc (.cells #[.slice none 0 0] 60))
  rw [hw5] at HB5 P5 HPA5 HPB5
  have HA5 := Lib.hid ((HA4.out.keep (al.sub fun b h => by show b < _; have := h.2; omega)).sub (T := S) fun b h => by subst hS; have := h.1; have := h.2; exact ⟨by omega, by omega, by omega⟩)
  have HBB5 := Lib.hid ((HBB4.out.keep (al.sub fun b h => by show b < _; have := h.2; omega)).sub (T := S) fun b h => by subst hS; have := h.1; have := h.2; exact ⟨by omega, by omega, by omega⟩)
  have HOA5 := Lib.hid ((HOA4.out.keep (al.sub fun b h => by show b < _; have := h.2; omega)).sub (T := S) fun b h => by subst hS; have := h.1; have := h.2; exact ⟨by omega, by omega, by omega⟩)
  have HOB5 := Lib.hid ((HOB.out.keep (al.sub fun b h => by show b < _; have := h.2; omega)).sub (T := S) fun b h => by subst hS; have := h.1; have := h.2; exact ⟨by omega, by omega, by omega⟩)
  have HSS : ∀ b, S b → b < w4.heap.size ∧ b ≠ w1.heap.size ∧ b ≠ w2.heap.size := by subst hS; exact fun b h => h
  have HS := Lib.hid HSS
  clear al HB4 HA4 HPA4 HBB4 HPB4 HOA4 HOB hw5 hS HSS
  go_wp2_with fail
  refine (visit_pass w5 _ _ _ S [] _ f P5.out HPA5.out HA5.out (fun b hb => ⟨by have := (HS.out b hb).1; omega, by have := (HS.out b hb).1; omega, (HS.out b hb).2.1, fun h => h⟩) (by simp) _ _).mono ?_
  rintro e w6 ⟨rfl, p6, ba6, fr6⟩
  rw [List.nil_append] at p6
  have s6 := fr6.size
  have ag6 : Agree S w5 w6 := fr6.agree fun b hb => ⟨by have := (HS.out b hb).1; omega, by have := HS.out b hb; rintro (h | h | h); omega; omega; exact h⟩
  have HB6 := Lib.hid (fr6.below HB5.out HB5.out.size (by rintro b (h | h | h); omega; omega; exact h.elim))
  have HPB6 := Lib.hid (fr6.blk HPB5.out (by rintro (h | h | h); omega; omega; exact h))
  have HBB6 := Lib.hid (HBB5.out.keep ag6)
  have HOA6 := Lib.hid (HOA5.out.keep ag6)
  have HOB6 := Lib.hid (HOB5.out.keep ag6)
  have P6 := Lib.hid p6
  have BA6 := Lib.hid ba6
  clear p6 ba6 fr6 ag6 P5 HPA5 HPB5 HA5 HBB5 HOA5 HOB5 HB5
  go_wp2_with fail
  refine (visit_pass w6 _ _ _ S _ _ g P6.out HPB6.out HBB6.out (fun b hb => ⟨by have := (HS.out b hb).1; omega, by have := (HS.out b hb).1; omega, (HS.out b hb).2.2, by have := (HS.out b hb).1; rintro (h | h); exact h; omega⟩) (by have := keep_le (f.getD []); have := HFL.out; omega) _ _).mono ?_
  rintro e w7 ⟨rfl, p7, bb7, fr7⟩
  have s7 := fr7.size
  have ag7 : Agree S w6 w7 := fr7.agree fun b hb => ⟨by have := (HS.out b hb).1; omega, by have := HS.out b hb; rintro (h | h | h | h); omega; omega; exact h; omega⟩
  have HB7 := Lib.hid (fr7.below HB6.out HB6.out.size (by rintro b (h | h | h | h); omega; omega; exact h.elim; omega))
  have BA7 := Lib.hid (fr7.blk BA6.out (by rintro (h | h | h | h); omega; omega; exact h; omega))
  have HOA7 := Lib.hid (HOA6.out.keep ag7)
  have HOB7 := Lib.hid (HOB6.out.keep ag7)
  have hkl : (keep (f.getD []) ++ keep (g.getD [])).length ≤ 16777216 := by have := keep_le (f.getD []); have := HFL.out; have := keep_le (g.getD []); have := HGL.out; rw [List.length_append]; omega
  obtain ⟨cv, fv, bc7, fo7, hfv⟩ := p7.fod hkl
  obtain ⟨x7, l7, c7, rfl, hl7⟩ := fo7.is_slice
  have FO7 := Lib.hid (fo7.sub (T := Old w7) fun b h => by rcases h with h | h; (have := (HS.out b h).1; show b < _; omega); exact h.2)
  have BC7 := Lib.hid bc7
  have HFV := Lib.hid hfv
  have HL7 := Lib.hid hl7
  have ca7 := BA7.out.cell 0
  have cb7 := bb7.cell 0
  simp at ca7 cb7
  have la7 := BA7.out.lt
  have lb7 := bb7.lt
  have n4 : ∀ W, (binOp .neq 26 (.slice none 0 0) (.slice none 0 0)).run Try.prog W = .ok (.bool false) W := fun W => by kernel_rfl
  clear p7 bb7 fr7 ag7 bc7 fo7 hfv hl7 hkl P6 HPB6 HBB6 HOA6 HOB6 HB6 BA6 BA7
  go_wp2_with fail
  refine (got_any w7 _ _ BC7.out).mono ?_
  rintro e w8 ⟨rfl, rfl⟩
  obtain ⟨k1, hk1⟩ : ∃ k1, (keep (f.getD [])).length = k1 := ⟨_, rfl⟩
  obtain ⟨k2, hk2⟩ : ∃ k2, (keep (g.getD [])).length = k2 := ⟨_, rfl⟩
  have W1 := Lib.hid (walk_at w7 _ _ f fv [] (keep (g.getD [])) (HOA7.out.sub fun b h => by have := (HS.out b h).1; show b < _; omega) FO7.out (by rw [HFV.out]; simp) 0 k1 rfl (by simpa using hk1))
  have W2 := fun w9 (hb : Below w7.heap.size w7 w9) => Lib.hid (walk_at w9 _ _ g fv (keep (f.getD [])) [] ((HOB7.out.later hb fun b h => by have := (HS.out b h).1; omega).sub fun b h => by have := (HS.out b h).1; have := hb.size; show b < _; omega) ((FO7.out.later hb fun b h => h).sub fun b h => Nat.lt_of_lt_of_le h hb.size) (by rw [HFV.out]; simp) k1 (k1 + k2) hk1 (by rw [hk1, hk2]))
  have W2H := Lib.hid W2
  have HE : l7 = k1 + k2 := by rw [HL7.out, HFV.out, List.length_append, hk1, hk2]
  have HEH := Lib.hid HE
  have hk1b : k1 ≤ 2097152 := by have := keep_le (f.getD []); have := HFL.out; omega
  have hk2b : k2 ≤ 2097152 := by have := keep_le (g.getD []); have := HGL.out; omega
  clear W2 HE hk1 hk2 HL7 HFV FO7 BC7 HOA7 HOB7
  go_wp2_with fail
  refine W1.out.mono ?_
  rintro e w8 ⟨rfl, hb8⟩
  have K2 := W2H.out w8 hb8
  have HB8 := Lib.hid (HB7.out.trans (hb8.mono HB7.out.size))
  clear W1 W2H hb8
  go_wp2_with fail
  refine K2.out.mono ?_
  rintro e w9 ⟨rfl, hb9⟩
  have HB9 := Lib.hid (HB8.out.trans (hb9.mono HB8.out.size))
  obtain rfl := HEH.out
  clear hb9 K2
  go_wp2_with fail
  go_ret
  exact ⟨by simp, HB9.out⟩
end Go.Proofs.Ytofhjpmkpgbgiaa
