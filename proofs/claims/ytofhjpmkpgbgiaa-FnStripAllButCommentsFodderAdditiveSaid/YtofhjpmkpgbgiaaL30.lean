/- The walk of the law that a pass over two fodders remembers what two passes remember. -/
import Derived.Test.YtofhjpmkpgbgiaaCnt
import Derived.Test.YtofhjpmkpgbgiaaTow
import Derived.Test.YtofhjpmkpgbgiaaNew
import Derived.Test.YtofhjpmkpgbgiaaGrm
import Derived.Test.YtofhjpmkpgbgiaaSiz
namespace Go.Proofs.Ytofhjpmkpgbgiaa
open Go.RowKit
set_option linter.unusedVariables false

set_option maxRecDepth 100000 in
set_option maxHeartbeats 6400000 in
theorem law30 (a : Option Addr) (n c : Nat) (zs : List ZE) (a2 : Option Addr) (n2 c2 : Nat) (zs2 : List ZE) (w : World) (h : IsZs w a n c zs) (h2 : IsZs w a2 n2 c2 zs2) :
    Calls Try.prog 5 #[.slice a n c, .slice a2 n2 c2] w fun e w' => e = .returned (.bool true) ∧ Below w.heap.size w w' := by
  have G := Lib.hid (guard18 w a n c zs a2 n2 c2 zs2 h h2)
  have SZ := Lib.hid (size_any w a n c zs h)
  have SZ2 := Lib.hid (size_any w a2 n2 c2 zs2 h2)
  have H := Lib.hid h
  have H2 := Lib.hid h2
  clear h h2
  go_enter Try.func5, Try.ntmps5
  go_wp2_with fail
  refine G.out.mono ?_
  rintro e w1 ⟨r, rfl, rfl, hr⟩
  cases r
  · go_wp2_with fail
    go_ret
    exact ⟨rfl, Below.refl _ _⟩
  have HR := Lib.hid (hr rfl)
  clear hr G
  go_wp2_with fail
  refine SZ.out.mono ?_
  rintro e w1 ⟨m, rfl, rfl, hm⟩
  clear SZ
  go_wp2_with fail
  refine SZ2.out.mono ?_
  rintro e w1 ⟨m2, rfl, rfl, hm2⟩
  clear SZ2
  by_cases hmm : 1048576 < (m : Int) + m2
  · go_wp2_with fail
    go_ret
    exact ⟨rfl, Below.refl _ _⟩
  have hz := HR.out (n, zs) (by simp)
  have hz2 := HR.out (n2, zs2) (by simp)
  have T := Lib.hid fun w' (hw : IsZs w' a n c zs) => tofod_any w' a n c zs hw hz.1 hz.2
  have T2 := Lib.hid fun w' (hw : IsZs w' a2 n2 c2 zs2) => tofod_any w' a2 n2 c2 zs2 hw hz2.1 hz2.2
  have TO := Lib.hid fun w' (hw : IsZs w' a n c zs) => tofod_own w' a n c zs hw hz.1 hz.2
  have hfl : ((inF a zs).getD []).length ≤ 1048576 := by have := inF_len a zs; have := H.out.1; have := hz.1; simp at *; omega
  have hgl : ((inF a2 zs2).getD []).length ≤ 1048576 := by have := inF_len a2 zs2; have := H2.out.1; have := hz2.1; simp at *; omega
  have HFL := Lib.hid hfl
  have HGL := Lib.hid hgl
  clear HR hz hz2 hfl hgl
  generalize inF a zs = f at *
  generalize inF a2 zs2 = g at *
  have HB0 := Lib.hid (Below.refl w.heap.size w)
  go_wp2_with fail
  refine (T.out w (H.out.below HB0.out)).mono ?_
  rintro e u1 ⟨v, rfl, hv, hb⟩
  obtain ⟨x1, l1, d1, rfl, -⟩ := hv.is_slice
  have su1 := hb.size
  have hba := hb.alloc hb.size (.cells #[.slice x1 l1 d1] 26)
  have HB1 := Lib.hid (HB0.out.trans (hba.mono HB0.out.size))
  have F1_1 := Lib.hid (hv.keep (Agree.alloc _ u1 (.cells #[.slice x1 l1 d1] 26) fun b h => h.2))
  have B1_1 := Lib.hid (Blk.new u1 26 #[.slice x1 l1 d1])
  have sU1 : (u1.alloc (.cells #[.slice x1 l1 d1] 26)).heap.size = u1.heap.size + 1 := by simp
  clear hv hb hba HB0 
  go_wp2_with fail
  generalize hU1 : u1.alloc (.cells #[.slice x1 l1 d1] 26) = U1 at *
  clear hU1
  go_wp2_with fail
  refine (T2.out U1 (H2.out.below HB1.out)).mono ?_
  rintro e u2 ⟨v, rfl, hv, hb⟩
  obtain ⟨x2, l2, d2, rfl, -⟩ := hv.is_slice
  have su2 := hb.size
  have hba := hb.alloc hb.size (.cells #[.slice x2 l2 d2] 26)
  have HB2 := Lib.hid (HB1.out.trans (hba.mono HB1.out.size))
  have F1_2 := Lib.hid (F1_1.out.later hba fun b h => by have := h.2; omega)
  have B1_2 := Lib.hid (B1_1.out.under hba)
  have F2_2 := Lib.hid (hv.keep (Agree.alloc _ u2 (.cells #[.slice x2 l2 d2] 26) fun b h => h.2))
  have B2_2 := Lib.hid (Blk.new u2 26 #[.slice x2 l2 d2])
  have sU2 : (u2.alloc (.cells #[.slice x2 l2 d2] 26)).heap.size = u2.heap.size + 1 := by simp
  clear hv hb hba HB1 F1_1 B1_1
  go_wp2_with fail
  generalize hU2 : u2.alloc (.cells #[.slice x2 l2 d2] 26) = U2 at *
  clear hU2
  go_wp2_with fail
  refine (T.out U2 (H.out.below HB2.out)).mono ?_
  rintro e u3 ⟨v, rfl, hv, hb⟩
  obtain ⟨x3, l3, d3, rfl, -⟩ := hv.is_slice
  have su3 := hb.size
  have hba := hb.alloc hb.size (.cells #[.slice x3 l3 d3] 26)
  have HB3 := Lib.hid (HB2.out.trans (hba.mono HB2.out.size))
  have F1_3 := Lib.hid (F1_2.out.later hba fun b h => by have := h.2; omega)
  have B1_3 := Lib.hid (B1_2.out.under hba)
  have F2_3 := Lib.hid (F2_2.out.later hba fun b h => by have := h.2; omega)
  have B2_3 := Lib.hid (B2_2.out.under hba)
  have F3_3 := Lib.hid (hv.keep (Agree.alloc _ u3 (.cells #[.slice x3 l3 d3] 26) fun b h => h.2))
  have B3_3 := Lib.hid (Blk.new u3 26 #[.slice x3 l3 d3])
  have sU3 : (u3.alloc (.cells #[.slice x3 l3 d3] 26)).heap.size = u3.heap.size + 1 := by simp
  clear hv hb hba HB2 F1_2 B1_2 F2_2 B2_2
  go_wp2_with fail
  generalize hU3 : u3.alloc (.cells #[.slice x3 l3 d3] 26) = U3 at *
  clear hU3
  go_wp2_with fail
  refine (T2.out U3 (H2.out.below HB3.out)).mono ?_
  rintro e u4 ⟨v, rfl, hv, hb⟩
  obtain ⟨x4, l4, d4, rfl, -⟩ := hv.is_slice
  have su4 := hb.size
  have hba := hb.alloc hb.size (.cells #[.slice x4 l4 d4] 26)
  have HB4 := Lib.hid (HB3.out.trans (hba.mono HB3.out.size))
  have F1_4 := Lib.hid (F1_3.out.later hba fun b h => by have := h.2; omega)
  have B1_4 := Lib.hid (B1_3.out.under hba)
  have F2_4 := Lib.hid (F2_3.out.later hba fun b h => by have := h.2; omega)
  have B2_4 := Lib.hid (B2_3.out.under hba)
  have F3_4 := Lib.hid (F3_3.out.later hba fun b h => by have := h.2; omega)
  have B3_4 := Lib.hid (B3_3.out.under hba)
  have F4_4 := Lib.hid (hv.keep (Agree.alloc _ u4 (.cells #[.slice x4 l4 d4] 26) fun b h => h.2))
  have B4_4 := Lib.hid (Blk.new u4 26 #[.slice x4 l4 d4])
  have sU4 : (u4.alloc (.cells #[.slice x4 l4 d4] 26)).heap.size = u4.heap.size + 1 := by simp
  clear hv hb hba HB3 F1_3 B1_3 F2_3 B2_3 F3_3 B3_3
  go_wp2_with fail
  generalize hU4 : u4.alloc (.cells #[.slice x4 l4 d4] 26) = U4 at *
  clear hU4
  refine (TO.out U4 (H.out.below HB4.out)).mono ?_
  rintro e w5 ⟨v, rfl, hv, hb⟩
  obtain ⟨x5, l5, d5, rfl⟩ := hv.is_slice
  have s5 := hb.size
  have HB5 := Lib.hid (HB4.out.trans (hb.mono HB4.out.size))
  have FRA := Lib.hid (Fr.of_below hb (fun _ => False))
  have O5 := Lib.hid hv
  clear hv hb HB4 TO T
  go_wp2_with fail
  refine (T2.out w5 (H2.out.below HB5.out)).mono ?_
  rintro e w6 ⟨v, rfl, hv, hb⟩
  obtain ⟨x6, l6, d6, rfl, -⟩ := hv.is_slice
  have s6 := hb.size
  have HB6 := Lib.hid (HB5.out.trans (hb.mono HB5.out.size))
  have FRB := Lib.hid (FRA.out.step (Fr.of_below hb (fun _ => False)) fun b _ h => h)
  obtain ⟨r6, hr6, o6, f6⟩ := own_pick O5.out hb s5 hv
  have O6 := Lib.hid o6
  have F6 := Lib.hid f6
  clear hv hb HB5 FRA O5 o6 f6 T2
  go_wp2_with (first | (with_reducible show wpList _ _ _ (⟨some 38, _, _, _, _, _⟩ :: _) _ _; refine of_hid ?_) | fail)
  refine Lib.hid ?_
  refine wpList_append_fod (o := ⟨some 38, _, _, _, _, _⟩) rfl (.tmp 35) (.tmp 37) rfl r6 _ _ _ (f.getD []) g rfl rfl O6.out F6.out (fun b h => ⟨h.2.1, h.2.2⟩) (by have := HFL.out; omega) ?_
  intro vr w7 r7 ho fr7 hr7
  obtain ⟨xr, lr, dr, rfl⟩ := ho.is_slice
  have s7 := fr7.size
  have HB7 := Lib.hid (fr7.below HB6.out HB6.out.size (by intro b h; omega))
  have FU7 := Lib.hid (FRB.out.step fr7 fun b hb h => by omega)
  obtain ⟨fref, ff, hfr⟩ := ho.fod (by have := HFL.out; have := HGL.out; rw [List.length_append]; omega)
  have R7 := Lib.hid (ff.sub (T := fun b => U4.heap.size ≤ b ∧ b < w7.heap.size) fun b h => by
    rcases h with h | h
    · exact ⟨h.1, by have := h.2.1; omega⟩
    · refine ⟨?_, h.2⟩
      rcases hr7 with e | e
      · omega
      · omega)
  have HREF := Lib.hid hfr
  clear ho fr7 ff hfr hr7 HB6 FRB O6 F6
  obtain ⟨XP, hXP⟩ : ∃ XP : Nat → Prop, XP = fun b => b = u1.heap.size ∨ b = u2.heap.size ∨ b = u3.heap.size ∨ b = u4.heap.size := ⟨_, rfl⟩
  have hXl : ∀ b, XP b → w.heap.size ≤ b ∧ b < U4.heap.size ∧ ¬ b < u1.heap.size ∧ ¬ (U1.heap.size ≤ b ∧ b < u2.heap.size) := by subst hXP; rintro b (h | h | h | h) <;> (refine ⟨?_, ?_, ?_, ?_⟩ <;> omega)
  have HXL := Lib.hid hXl
  have hX1 : XP u1.heap.size := by subst hXP; exact .inl rfl
  have hX2 : XP u2.heap.size := by subst hXP; exact .inr (.inl rfl)
  have hX3 : XP u3.heap.size := by subst hXP; exact .inr (.inr (.inl rfl))
  have hX4 : XP u4.heap.size := by subst hXP; exact .inr (.inr (.inr rfl))
  have HX := Lib.hid (And.intro hX1 (And.intro hX2 (And.intro hX3 hX4)))
  clear hXP hXl hX1 hX2 hX3 hX4
  go_wp2_with fail
  refine (new_any w7).mono ?_
  rintro e w8 ⟨rfl, hw8⟩
  have al : Below w7.heap.size w7 w8 := by rw [← hw8]; exact (Below.refl _ _).alloc (Nat.le_refl _) _
  have s8 : w8.heap.size = w7.heap.size + 1 := by rw [← hw8]; simp
  have FU8 := Lib.hid (FU7.out.step (Fr.of_below al (fun _ => False)) fun b _ h => h)
  have FR8 := Lib.hid (Fr.of_below al XP)
  have P8 := Lib.hid (show Pass w8 w7.heap.size (fun _ => False) (New w u1) [] by rw [← hw8]; exact Pass.fresh w7 _)
  have B1 := Lib.hid (FU8.out.blk B1_4.out (fun h => h))
  have F1 := Lib.hid (F1_4.out.fr FU8.out fun b h => ⟨by have := h.2; omega, fun h => h⟩)
  clear al hw8 FU7
  go_wp2_with fail
  refine (visit_pass w8 _ _ _ _ [] _ f P8.out B1.out F1.out (fun b hb => ⟨by have := hb.2; omega, by have := hb.2; omega, by have := hb.2; omega, fun h => h⟩) (by simp) _ _).mono ?_
  rintro e w9 ⟨rfl, p9, b9, fr9⟩
  rw [List.nil_append] at p9
  have s9 := fr9.size
  have FU9 := Lib.hid ((FU8.out.sub (Y := fun b => b = u1.heap.size) (fun b h => h.elim)).step fr9 fun b hb h => by rcases h with h | h | h; omega; exact h; exact h.elim)
  have FR9 := Lib.hid (FR8.out.step fr9 fun b hb h => by rcases h with rfl | rfl | h; omega; exact HX.out.1; exact h.elim)
  have P9 := Lib.hid (p9.sub (T' := fun b => w8.heap.size ≤ b ∧ b < w9.heap.size) (S' := New w u1) (fun b _ h => by rcases h with h | h; exact h.elim; exact h) (fun b h => h))
  clear p9 b9 fr9 P8 B1 F1 FU8 FR8
  go_wp2_with fail
  refine (new_any w9).mono ?_
  rintro e w10 ⟨rfl, hw10⟩
  have al : Below w9.heap.size w9 w10 := by rw [← hw10]; exact (Below.refl _ _).alloc (Nat.le_refl _) _
  have s10 : w10.heap.size = w9.heap.size + 1 := by rw [← hw10]; simp
  have FU10 := Lib.hid (FU9.out.step (Fr.of_below al (fun _ => False)) fun b _ h => h.elim)
  have FR10 := Lib.hid (FR9.out.step (Fr.of_below al (fun _ => False)) fun b _ h => h.elim)
  have FP10 := Lib.hid (Fr.of_below al XP)
  have P10 := Lib.hid (show Pass w10 w9.heap.size (fun _ => False) (New U1 u2) [] by rw [← hw10]; exact Pass.fresh w9 _)
  have B2 := Lib.hid (FU10.out.blk B2_4.out (by show ¬ (u2.heap.size = u1.heap.size); omega))
  have F2 := Lib.hid (F2_4.out.fr FU10.out fun b h => ⟨by have := h.2; omega, by have := h.1; show ¬ (b = u1.heap.size); omega⟩)
  clear al hw10 FU9 FR9
  go_wp2_with fail
  refine (visit_pass w10 _ _ _ _ [] _ g P10.out B2.out F2.out (fun b hb => ⟨by have := hb.2; omega, by have := hb.2; omega, by have := hb.2; omega, fun h => h⟩) (by simp) _ _).mono ?_
  rintro e w11 ⟨rfl, p11, b11, fr11⟩
  rw [List.nil_append] at p11
  have s11 := fr11.size
  have FU11 := Lib.hid ((FU10.out.sub (Y := fun b => b = u1.heap.size ∨ b = u2.heap.size) (fun b h => .inl h)).step fr11 fun b hb h => by rcases h with h | h | h; omega; exact .inr h; exact h.elim)
  have FR11 := Lib.hid (FR10.out.step fr11 fun b hb h => by rcases h with rfl | rfl | h; omega; exact HX.out.2.1; exact h.elim)
  have FP11 := Lib.hid (FP10.out.step fr11 fun b hb h => by rcases h with rfl | rfl | h; omega; exact HX.out.2.1; exact h.elim)
  have P11 := Lib.hid (p11.sub (T' := fun b => w10.heap.size ≤ b ∧ b < w11.heap.size) (S' := New U1 u2) (fun b _ h => by rcases h with h | h; exact h.elim; exact h) (fun b h => h))
  clear p11 b11 fr11 P10 B2 F2 FU10 FR10 FP10
  go_wp2_with fail
  refine (new_any w11).mono ?_
  rintro e w12 ⟨rfl, hw12⟩
  have al : Below w11.heap.size w11 w12 := by rw [← hw12]; exact (Below.refl _ _).alloc (Nat.le_refl _) _
  have s12 : w12.heap.size = w11.heap.size + 1 := by rw [← hw12]; simp
  have FU12 := Lib.hid (FU11.out.step (Fr.of_below al (fun _ => False)) fun b _ h => h.elim)
  have FR12 := Lib.hid (FR11.out.step (Fr.of_below al (fun _ => False)) fun b _ h => h.elim)
  have FP12 := Lib.hid (FP11.out.step (Fr.of_below al (fun _ => False)) fun b _ h => h.elim)
  have FQ12 := Lib.hid (Fr.of_below al XP)
  obtain ⟨S3, hS3⟩ : ∃ S3 : Nat → Prop, S3 = fun b => U2.heap.size ≤ b ∧ b < u4.heap.size ∧ b ≠ u3.heap.size := ⟨_, rfl⟩
  have HS3 := Lib.hid (show ∀ b, S3 b → U2.heap.size ≤ b ∧ b < u4.heap.size ∧ b ≠ u3.heap.size by subst hS3; exact fun b h => h)
  have HS3' := Lib.hid (show ∀ b, U2.heap.size ≤ b ∧ b < u4.heap.size ∧ b ≠ u3.heap.size → S3 b by subst hS3; exact fun b h => h)
  have P12 := Lib.hid (show Pass w12 w11.heap.size (fun _ => False) S3 [] by rw [← hw12]; exact Pass.fresh w11 _)
  have B3 := Lib.hid (FU12.out.blk B3_4.out (by rintro (h | h) <;> omega))
  have F3 := Lib.hid ((F3_4.out.fr FU12.out fun b h => ⟨by have := h.2; omega, by have := h.1; rintro (h | h) <;> omega⟩).sub (T := S3) fun b h => by have := h.1; have := h.2; exact HS3'.out b ⟨by omega, by omega, by omega⟩)
  clear al hw12 FU11 FR11 FP11 hS3
  go_wp2_with fail
  refine (visit_pass w12 _ _ _ S3 [] _ f P12.out B3.out F3.out (fun b hb => by have := HS3.out b hb; exact ⟨by omega, by omega, by omega, fun h => h⟩) (by simp) _ _).mono ?_
  rintro e w13 ⟨rfl, p13, b13, fr13⟩
  rw [List.nil_append] at p13
  have s13 := fr13.size
  have FU13 := Lib.hid ((FU12.out.sub (Y := fun b => b = u1.heap.size ∨ b = u2.heap.size ∨ b = u3.heap.size) (fun b h => by rcases h with h | h; exact .inl h; exact .inr (.inl h))).step fr13 fun b hb h => by rcases h with h | h | h; omega; exact .inr (.inr h); exact h.elim)
  have FR13 := Lib.hid (FR12.out.step fr13 fun b hb h => by rcases h with rfl | rfl | h; omega; exact HX.out.2.2.1; exact h.elim)
  have FP13 := Lib.hid (FP12.out.step fr13 fun b hb h => by rcases h with rfl | rfl | h; omega; exact HX.out.2.2.1; exact h.elim)
  have FQ13 := Lib.hid (FQ12.out.step fr13 fun b hb h => by rcases h with rfl | rfl | h; omega; exact HX.out.2.2.1; exact h.elim)
  have P13 := Lib.hid (p13.sub (T' := fun b => w12.heap.size ≤ b ∧ b < w13.heap.size) (S' := S3) (fun b _ h => by rcases h with h | h; exact h.elim; exact h) (fun b h => h))
  have B4 := Lib.hid (FU13.out.blk B4_4.out (by rintro (h | h | h) <;> omega))
  have F4 := Lib.hid ((F4_4.out.fr FU13.out fun b h => ⟨by have := h.2; omega, by have := h.1; rintro (h | h | h) <;> omega⟩).sub (T := S3) fun b h => by have := h.1; have := h.2; exact HS3'.out b ⟨by omega, by omega, by omega⟩)
  clear p13 b13 fr13 P12 B3 F3 FU12 FR12 FP12 FQ12 FU13
  go_wp2_with fail
  refine (visit_pass w13 _ _ _ S3 _ _ g P13.out B4.out F4.out (fun b hb => by have := HS3.out b hb; exact ⟨by omega, by omega, by omega, fun h => by omega⟩) (by have := keep_le (f.getD []); have := HFL.out; omega) _ _).mono ?_
  rintro e w14 ⟨rfl, p14, b14, fr14⟩
  have s14 := fr14.size
  have FR14 := Lib.hid (FR13.out.step fr14 fun b hb h => by rcases h with rfl | rfl | h; omega; exact HX.out.2.2.2; omega)
  have FP14 := Lib.hid (FP13.out.step fr14 fun b hb h => by rcases h with rfl | rfl | h; omega; exact HX.out.2.2.2; omega)
  have FQ14 := Lib.hid (FQ13.out.step fr14 fun b hb h => by rcases h with rfl | rfl | h; omega; exact HX.out.2.2.2; omega)
  have HB14 := Lib.hid (FR14.out.below HB7.out HB7.out.size (fun b h => (HXL.out b h).1))
  have R14 := Lib.hid (R7.out.fr FR14.out fun b h => ⟨h.2, fun hx => by have := HXL.out b hx; have := h.1; omega⟩)
  have PA := Lib.hid (P9.out.fr FP14.out (fun b h => ⟨by have := h.2; omega, fun hx => by have := HXL.out b hx; have := h.2; omega⟩) (fun b h _ hx => by have := HXL.out b hx; omega) (fun hx => by have := HXL.out _ hx; omega))
  have PB := Lib.hid (P11.out.fr FQ14.out (fun b h => ⟨by have := h.2; omega, fun hx => by have := HXL.out b hx; have := h.1; have := h.2; omega⟩) (fun b h _ hx => by have := HXL.out b hx; omega) (fun hx => by have := HXL.out _ hx; omega))
  have PC := Lib.hid p14
  have hkf := keep_le (f.getD [])
  have hkg := keep_le (g.getD [])
  obtain ⟨cv1, fv1, bc1, fo1, hfv1⟩ := PA.out.fod (by have := HFL.out; omega)
  obtain ⟨y1, ly1, dy1, rfl, -⟩ := fo1.is_slice
  have BC1 := Lib.hid bc1
  have FO1 := Lib.hid (fo1.sub (T := Old w14) fun b h => by
    rcases h with h | h
    · have := h.2
      show b < _
      omega
    · exact h.2)
  have HFV1 := Lib.hid hfv1
  clear p14 b14 fr14 P13 B4 F4 FR13 FP13 FQ13 FR14 FP14 FQ14 R7 P9 P11 bc1 fo1 hfv1 HB7
  go_wp2_with fail
  refine (got_any w14 _ _ BC1.out).mono ?_
  rintro e w14' ⟨rfl, rfl⟩
  go_wp2_with fail
  refine (clonef_own w14 _ fv1 FO1.out).mono ?_
  rintro e w15 ⟨v, rfl, hv, hb⟩
  obtain ⟨x15, l15, d15, rfl⟩ := hv.is_slice
  have s15 := hb.size
  rw [HFV1.out] at hv
  have O15 := Lib.hid hv
  have HB15 := Lib.hid (HB14.out.trans (hb.mono HB14.out.size))
  have FR15 := Lib.hid (Fr.of_below hb (fun _ => False))
  have PB15 := Lib.hid (PB.out.below hb fun b h => by have := h.2; omega)
  obtain ⟨cv2, fv2, bc2, fo2, hfv2⟩ := PB15.out.fod (by have := HGL.out; omega)
  obtain ⟨y2, ly2, dy2, rfl, -⟩ := fo2.is_slice
  have BC2 := Lib.hid bc2
  have FO2 := Lib.hid (fo2.sub (T := Old w15) fun b h => by
    rcases h with h | h
    · have := h.2
      show b < _
      omega
    · exact h.2)
  have HFV2 := Lib.hid hfv2
  clear hv hb BC1 FO1 HFV1 PA PB bc2 fo2 hfv2 HB14
  go_wp2_with fail
  refine (got_any w15 _ _ BC2.out).mono ?_
  rintro e w15' ⟨rfl, rfl⟩
  go_wp2_with fail
  refine (clonef_any w15 _ fv2 FO2.out).mono ?_
  rintro e w16 ⟨v, rfl, hv, hb⟩
  obtain ⟨x16, l16, d16, rfl, -⟩ := hv.is_slice
  have s16 := hb.size
  have HB16 := Lib.hid (HB15.out.trans (hb.mono HB15.out.size))
  have FR16 := Lib.hid (FR15.out.step (Fr.of_below hb (fun _ => False)) fun b _ h => h)
  obtain ⟨rj, hrj, oj, fj⟩ := own_pick O15.out hb s15 hv
  have OJ := Lib.hid oj
  have FJ := Lib.hid fj
  clear hv hb HB15 FR15 O15 oj fj BC2 FO2
  go_wp2_with (first | (with_reducible show wpList _ _ _ (⟨some 57, _, _, _, _, _⟩ :: _) _ _; refine of_hid ?_) | fail)
  refine Lib.hid ?_
  refine wpList_append_fod (o := ⟨some 57, _, _, _, _, _⟩) rfl (.tmp 53) (.tmp 56) rfl rj _ _ _ (keep (f.getD [])) fv2 rfl rfl OJ.out FJ.out (fun b h => ⟨h.2.1, h.2.2⟩) (by have := HFL.out; omega) ?_
  intro vj w17 rj7 ho fr17 hrj7
  obtain ⟨xj, lj, dj, rfl⟩ := ho.is_slice
  have s17 := fr17.size
  have HB17 := Lib.hid (fr17.below HB16.out HB16.out.size (by intro b h; omega))
  have FR17 := Lib.hid (FR16.out.step fr17 fun b hb h => by omega)
  rw [HFV2.out] at ho
  obtain ⟨fjn, ffj, hfj⟩ := ho.fod (by have := HFL.out; have := HGL.out; rw [List.length_append]; omega)
  have J17 := Lib.hid (ffj.sub (T := Old w17) fun b h => by
    rcases h with h | h
    · have := h.2.1
      show b < _
      omega
    · exact h.2)
  have HJ := Lib.hid hfj
  have R17 := Lib.hid (R14.out.fr FR17.out fun b h => ⟨by have := h.2; omega, fun h => h⟩)
  have PC17 := Lib.hid (PC.out.fr FR17.out (fun b h => ⟨by have := HS3.out b h; omega, fun h => h⟩) (fun b _ _ h => h) (fun h => h))
  obtain ⟨cv3, fv3, bc3, fo3, hfv3⟩ := PC17.out.fod (by have := HFL.out; have := HGL.out; rw [List.length_append]; omega)
  obtain ⟨y3, ly3, dy3, rfl, hly3⟩ := fo3.is_slice
  have BC3 := Lib.hid bc3
  have FO3 := Lib.hid (fo3.sub (T := Old w17) fun b h => by
    rcases h with h | h
    · have := HS3.out b h
      show b < _
      omega
    · exact h.2)
  have HFV3 := Lib.hid hfv3
  have HLY3 := Lib.hid hly3
  clear ho fr17 ffj hfj hrj7 HB16 FR16 OJ FJ R14 PC PC17 bc3 fo3 hfv3 hly3 FR17
  go_wp2_with fail
  refine (got_any w17 _ _ BC3.out).mono ?_
  rintro e w17' ⟨rfl, rfl⟩
  have C2 := Lib.hid (count_any w17 _ _ fref 2 R17.out fun b h => by have := h.2; omega)
  have C1 := Lib.hid (count_any w17 _ _ fref 1 R17.out fun b h => by have := h.2; omega)
  rw [HREF.out] at C2 C1
  have hcount : (ly3 : Nat) = cntK (f.getD [] ++ g.getD []) 2 + 2 * cntK (f.getD [] ++ g.getD []) 1 := by rw [HLY3.out, HFV3.out, ← keep_append, keep_count]
  have hly : ly3 ≤ 16777216 := by rw [HLY3.out, HFV3.out, List.length_append]; have := HFL.out; have := HGL.out; omega
  generalize cntK (f.getD [] ++ g.getD []) 2 = m2' at *
  generalize cntK (f.getD [] ++ g.getD []) 1 = m1' at *
  have KE := Lib.hid (fod_eq w17 _ _ fjn fv3 J17.out FO3.out (by rw [HJ.out, HFV3.out]))
  have hm2' : m2' ≤ 16777216 := by omega
  have hm1' : m1' ≤ 16777216 := by omega
  subst hcount
  clear BC3 FO3 HFV3 HLY3 J17 HJ R17 HREF
  go_wp2_with fail
  refine C2.out.mono ?_
  rintro e w17' ⟨rfl, rfl⟩
  go_wp2_with fail
  refine C1.out.mono ?_
  rintro e w17' ⟨rfl, rfl⟩
  clear C1 C2
  go_wp2_with fail
  refine KE.out.mono ?_
  rintro e w18 ⟨rfl, hb18⟩
  have HB18 := Lib.hid (HB17.out.trans (hb18.mono HB17.out.size))
  clear hb18 KE
  go_wp2_with fail
  go_ret
  exact ⟨rfl, HB18.out⟩
end Go.Proofs.Ytofhjpmkpgbgiaa
