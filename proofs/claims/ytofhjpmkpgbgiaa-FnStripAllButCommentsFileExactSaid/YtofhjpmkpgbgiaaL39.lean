/- The walk of the law on the comment-only pass over a file that is a null literal. -/
import Derived.Test.YtofhjpmkpgbgiaaFlg
import Derived.Test.YtofhjpmkpgbgiaaGrm
import Derived.Test.YtofhjpmkpgbgiaaSiz
namespace Go.Proofs.Ytofhjpmkpgbgiaa
open Go.RowKit
set_option linter.unusedVariables false

set_option maxRecDepth 100000 in
set_option maxHeartbeats 6400000 in
theorem law39 (a : Option Addr) (n c : Nat) (zs : List ZE) (a2 : Option Addr) (n2 c2 : Nat) (zs2 : List ZE) (a3 : Option Addr) (n3 c3 : Nat) (zs3 : List ZE) (line col : Int) (w : World) (h : IsZs w a n c zs) (h2 : IsZs w a2 n2 c2 zs2) (h3 : IsZs w a3 n3 c3 zs3) :
    Calls Try.prog 8 #[.slice a n c, .slice a2 n2 c2, .slice a3 n3 c3, .int .i64 line, .int .i64 col] w fun e w' => e = .returned (.bool true) ∧ Below w.heap.size w w' := by
  have G := Lib.hid (guard25 w a n c zs a2 n2 c2 zs2 a3 n3 c3 zs3 line col h h2 h3)
  have SZ := Lib.hid (size_any w a n c zs h)
  have SZ2 := Lib.hid (size_any w a2 n2 c2 zs2 h2)
  have SZ3 := Lib.hid (size_any w a3 n3 c3 zs3 h3)
  have H := Lib.hid h
  have H2 := Lib.hid h2
  have H3 := Lib.hid h3
  clear h h2 h3
  go_enter Try.func8, Try.ntmps8
  go_wp2_with fail
  refine G.out.mono ?_
  rintro e w1 ⟨r, rfl, rfl, hr⟩
  cases r
  · go_wp2_with fail
    go_ret
    exact ⟨rfl, Below.refl _ _⟩
  have HR := Lib.hid (hr rfl)
  clear hr G
  go_wp2_with fail
  refine SZ.out.mono ?_
  rintro e w1 ⟨m, rfl, rfl, hm⟩
  clear SZ
  go_wp2_with fail
  refine SZ2.out.mono ?_
  rintro e w1 ⟨m2, rfl, rfl, hm2⟩
  clear SZ2
  go_wp2_with fail
  refine SZ3.out.mono ?_
  rintro e w1 ⟨m3, rfl, rfl, hm3⟩
  clear SZ3
  by_cases hmm : 1048576 < (m : Int) + m2 + m3
  · go_wp2_with fail
    go_ret
    exact ⟨rfl, Below.refl _ _⟩
  have hz := HR.out (n, zs) (by simp)
  have hz2 := HR.out (n2, zs2) (by simp)
  have hz3 := HR.out (n3, zs3) (by simp)
  have T := Lib.hid fun w' (hw : IsZs w' a n c zs) => tofod_any w' a n c zs hw hz.1 hz.2
  have T2 := Lib.hid fun w' (hw : IsZs w' a2 n2 c2 zs2) => tofod_any w' a2 n2 c2 zs2 hw hz2.1 hz2.2
  have T3 := Lib.hid fun w' (hw : IsZs w' a3 n3 c3 zs3) => tofod_any w' a3 n3 c3 zs3 hw hz3.1 hz3.2
  have hfl : ((inF a zs).getD []).length ≤ 1048576 := by have := inF_len a zs; have := H.out.1; have := hz.1; simp at *; omega
  have hgl : ((inF a2 zs2).getD []).length ≤ 1048576 := by have := inF_len a2 zs2; have := H2.out.1; have := hz2.1; simp at *; omega
  have hkl : ((inF a3 zs3).getD []).length ≤ 1048576 := by have := inF_len a3 zs3; have := H3.out.1; have := hz3.1; simp at *; omega
  have HFL := Lib.hid hfl
  have HGL := Lib.hid hgl
  have HKL := Lib.hid hkl
  clear HR hz hz2 hz3 hfl hgl hkl
  generalize inF a zs = f at *
  generalize inF a2 zs2 = g at *
  generalize inF a3 zs3 = k at *
  go_wp2_with fail
  refine (T.out w H.out).mono ?_
  rintro e w1 ⟨v, rfl, hv, hb⟩
  obtain ⟨x1, l1, d1, rfl, -⟩ := hv.is_slice
  have s1 := hb.size
  have HB1 := Lib.hid hb
  have O1 := Lib.hid hv
  clear hv hb
  go_wp2_with fail
  refine (T2.out w1 (H2.out.below HB1.out)).mono ?_
  rintro e w2 ⟨v, rfl, hv, hb⟩
  obtain ⟨x2, l2, d2, rfl, -⟩ := hv.is_slice
  have s2 := hb.size
  have HB2 := Lib.hid (HB1.out.trans (hb.mono HB1.out.size))
  have O1b := Lib.hid (O1.out.later hb fun b h => h.2)
  have O2 := Lib.hid hv
  clear hv hb O1 HB1
  go_wp2_with fail
  refine (T3.out w2 (H3.out.below HB2.out)).mono ?_
  rintro e w3 ⟨v, rfl, hv, hb⟩
  obtain ⟨x3, l3, d3, rfl, -⟩ := hv.is_slice
  have s3 := hb.size
  have HB3 := Lib.hid (HB2.out.trans (hb.mono HB2.out.size))
  have O1c := Lib.hid (O1b.out.later hb fun b h => by have := h.2; omega)
  have O2c := Lib.hid (O2.out.later hb fun b h => h.2)
  have O3 := Lib.hid hv
  clear hv hb O1b O2 HB2
  go_wp2_with fail
  refine (new_any w3).mono ?_
  rintro e w4 ⟨rfl, hw4⟩
  have al : Below w3.heap.size w3 w4 := by rw [← hw4]; exact (Below.refl _ _).alloc (Nat.le_refl _) _
  have s4 : w4.heap.size = w3.heap.size + 1 := by rw [← hw4]; simp
  have HB4 := Lib.hid (HB3.out.trans (al.mono HB3.out.size))
  have O1d := Lib.hid (O1c.out.later al fun b h => by have := h.2; omega)
  have O2d := Lib.hid (O2c.out.later al fun b h => by have := h.2; omega)
  have O3d := Lib.hid (O3.out.later al fun b h => h.2)
  have P4 := Lib.hid fun S => (show Pass w4 w3.heap.size (fun _ => False) S [] by rw [← hw4]; exact Pass.fresh w3 S)
  clear al hw4 O1c O2c O3 HB3
  go_wp2_with fail
  refine (T.out w4 (H.out.below HB4.out)).mono ?_
  rintro e w5 ⟨v, rfl, hv, hb⟩
  obtain ⟨x5, l5, d5, rfl, -⟩ := hv.is_slice
  have hsz5 := hb.size
  have hb5 := hb.alloc hb.size (.cells #[.slice x5 l5 d5] 26)
  have HB5 := Lib.hid (HB4.out.trans (hb5.mono HB4.out.size))
  have O1e := Lib.hid (O1d.out.later hb5 fun b h => by have := h.2; omega)
  have O2e := Lib.hid (O2d.out.later hb5 fun b h => by have := h.2; omega)
  have O3e := Lib.hid (O3d.out.later hb5 fun b h => by have := h.2; omega)
  have F5 := Lib.hid (hv.keep (Agree.alloc _ w5 (.cells #[.slice x5 l5 d5] 26) fun b h => h.2))
  have BP5 := Lib.hid (Blk.new w5 26 #[.slice x5 l5 d5])
  have P5 := Lib.hid ((P4.out (New w4 w5)).sub (T' := fun _ => False) (S' := New w4 w5) (fun b _ h => h) (fun b h => h))
  have P5' := Lib.hid ((P4.out (fun _ => False)).below hb5 (fun b h => h.elim))
  have s5 : (w5.alloc (.cells #[.slice x5 l5 d5] 26)).heap.size = w5.heap.size + 1 := by simp
  clear hv hb hb5 P5 P4 O1d O2d O3d HB4
  go_wp2_with fail
  generalize w5.alloc (.cells #[.slice x5 l5 d5] 26) = W5 at *
  refine (visit_pass W5 _ _ _ (New w4 w5) [] _ f (P5'.out.sub (fun b _ h => h) (fun b h => h.elim)) BP5.out F5.out (fun b hb => ⟨by have := hb.2; omega, by have := hb.1; omega, by have := hb.2; omega, fun h => h⟩) (by simp) _ _).mono ?_
  rintro e w6 ⟨rfl, p6, b6, fr6⟩
  rw [List.nil_append] at p6
  have s6 := fr6.size
  have ag6 : ∀ S : Nat → Prop, (∀ b, S b → b < w3.heap.size) → Agree S W5 w6 := fun S hS => fr6.agree fun b hb => ⟨by have := hS b hb; omega, by have := hS b hb; rintro (h | h | h); omega; omega; exact h⟩
  have HB6 := Lib.hid (fr6.below HB5.out HB5.out.size (by rintro b (h | h | h); omega; omega; exact h.elim))
  have O1f := Lib.hid (O1e.out.keep (ag6 _ fun b h => by have := h.2; omega))
  have O2f := Lib.hid (O2e.out.keep (ag6 _ fun b h => by have := h.2; omega))
  have O3f := Lib.hid (O3e.out.keep (ag6 _ fun b h => by have := h.2; omega))
  have P6 := Lib.hid p6
  have B6 := Lib.hid b6
  clear p6 b6 fr6 ag6 O1e O2e O3e HB5 P5' F5 BP5
  go_wp2_with fail
  refine (T2.out w6 (H2.out.below HB6.out)).mono ?_
  rintro e w7 ⟨v, rfl, hv, hb⟩
  obtain ⟨x7, l7, d7, rfl, -⟩ := hv.is_slice
  have s7 := hb.size
  have HB7 := Lib.hid (HB6.out.trans (hb.mono HB6.out.size))
  have O1g := Lib.hid (O1f.out.later hb fun b h => by have := h.2; omega)
  have O2g := Lib.hid (O2f.out.later hb fun b h => by have := h.2; omega)
  have O3g := Lib.hid (O3f.out.later hb fun b h => by have := h.2; omega)
  have P7 := Lib.hid (P6.out.below hb fun b h => by have := h.2; omega)
  have B7 := Lib.hid (B6.out.under hb)
  have F7 := Lib.hid hv
  clear hv hb O1f O2f O3f HB6 P6 B6
  go_wp2_with fail
  refine (T3.out w7 (H3.out.below HB7.out)).mono ?_
  rintro e w8 ⟨v, rfl, hv, hb⟩
  obtain ⟨x8, l8, d8, rfl, -⟩ := hv.is_slice
  have s8 := hb.size
  have HB8 := Lib.hid (HB7.out.trans (hb.mono HB7.out.size))
  have O1h := Lib.hid (O1g.out.later hb fun b h => by have := h.2; omega)
  have O2h := Lib.hid (O2g.out.later hb fun b h => by have := h.2; omega)
  have O3h := Lib.hid (O3g.out.later hb fun b h => by have := h.2; omega)
  obtain ⟨T8, hT8⟩ : ∃ T8 : Nat → Prop, T8 = fun b => W5.heap.size ≤ b ∧ b < w6.heap.size := ⟨_, rfl⟩
  obtain ⟨S8, hS8⟩ : ∃ S8 : Nat → Prop, S8 = fun b => b < w8.heap.size ∧ b ≠ w3.heap.size ∧ b ≠ w5.heap.size ∧ ¬ T8 b := ⟨_, rfl⟩
  have HT8 : ∀ b, T8 b → W5.heap.size ≤ b ∧ b < w6.heap.size := by subst hT8; exact fun b h => h
  have HT8' : ∀ b, W5.heap.size ≤ b ∧ b < w6.heap.size → T8 b := by subst hT8; exact fun b h => h
  have HS8 : ∀ b, S8 b → b < w8.heap.size ∧ b ≠ w3.heap.size ∧ b ≠ w5.heap.size ∧ ¬ T8 b := by subst hS8; exact fun b h => h
  have HS8' : ∀ b, b < w8.heap.size → b ≠ w3.heap.size → b ≠ w5.heap.size → ¬ T8 b → S8 b := by subst hS8; exact fun b h1 h2 h3 h4 => ⟨h1, h2, h3, h4⟩
  have P8 := Lib.hid ((P7.out.below hb fun b h => by have := h.2; omega).sub (T' := T8) (S' := S8) (fun b _ h => by rcases h with h | h; exact h.elim; exact HT8' b h) (fun b h => by have := h.1; have := h.2; exact HS8' b (by omega) (by omega) (by omega) (fun h => by have := HT8 b h; omega)))
  have B8 := Lib.hid (B7.out.under hb)
  have F7b := Lib.hid ((F7.out.later hb fun b h => h.2).sub (T := S8) fun b h => by have := h.1; have := h.2; exact HS8' b (by omega) (by omega) (by omega) (fun h => by have := HT8 b h; omega))
  have F8 := Lib.hid (hv.sub (T := S8) fun b h => by have := h.1; have := h.2; exact HS8' b (by omega) (by omega) (by omega) (fun h => by have := HT8 b h; omega))
  have hkf := keep_le (f.getD [])
  have hkg := keep_le (g.getD [])
  have hkk := keep_le (k.getD [])
  have hfl := HFL.out
  have hgl := HGL.out
  have hkl := HKL.out
  have K := Lib.hid (over_null w8 w3.heap.size T8 S8 (keep (f.getD [])) x7 l7 d7 x8 l8 d8 line col g k P8.out F7b.out F8.out (fun b hb => ⟨(HS8 b hb).1, (HS8 b hb).2.1, (HS8 b hb).2.2.2⟩) (fun b hb => by have := HT8 b hb; omega) (by omega) (by omega) (by omega) (by simp only [List.length_append]; omega))
  have HTT := Lib.hid HT8
  have HSS := Lib.hid HS8
  clear hv hb O1g O2g O3g HB7 P7 B7 P8 F7 F7b F8 hT8 hS8 HT8 HT8' HS8 HS8' hkf hkg hkk hfl hgl hkl
  go_wp2_with fail
  refine K.out.mono ?_
  rintro e w9 ⟨y, ly, dy, fv, rfl, fo, hfv, fr9⟩
  have s9 := fr9.size
  have ag9 : ∀ S : Nat → Prop, (∀ b, S b → b < w3.heap.size) → Agree S w8 w9 := fun S hS => fr9.agree fun b hb => ⟨by have := hS b hb; omega, by have := hS b hb; rintro (h | h); omega; have := HTT.out b h; omega⟩
  have HB9 := Lib.hid (fr9.below HB8.out HB8.out.size (by rintro b (h | h); omega; have := HTT.out b h; omega))
  have O1i := Lib.hid (O1h.out.keep (ag9 _ fun b h => by have := h.2; omega))
  have O2i := Lib.hid (O2h.out.keep (ag9 _ fun b h => by have := h.2; omega))
  have O3i := Lib.hid (O3h.out.keep (ag9 _ fun b h => by have := h.2; omega))
  have B9 := Lib.hid (fr9.blk B8.out (by rintro (h | h); omega; have := HTT.out _ h; omega))
  obtain ⟨y', ly', dy', he, hly⟩ := fo.is_slice
  obtain rfl : ly = ly' := by injection he
  have FO9 := Lib.hid (fo.sub (T := Old w9) fun b h => by
    rcases h with h | h
    · show b < _
      have := (HSS.out b h).1
      omega
    · exact h.2)
  have HFV := Lib.hid hfv
  have HLY := Lib.hid hly
  have p9 := B9.out.cell 0
  simp at p9
  have pl9 := B9.out.lt
  have n4 : ∀ W, (binOp .neq 26 (.slice none 0 0) (.slice none 0 0)).run Try.prog W = .ok (.bool false) W := fun W => by kernel_rfl
  clear fo hfv fr9 ag9 he hly O1h O2h O3h HB8 B8 B9 K
  obtain ⟨k1, hk1⟩ : ∃ k1, (keep (f.getD [])).length = k1 := ⟨_, rfl⟩
  obtain ⟨k2, hk2⟩ : ∃ k2, (keep (g.getD [])).length = k2 := ⟨_, rfl⟩
  obtain ⟨k3, hk3⟩ : ∃ k3, (keep (k.getD [])).length = k3 := ⟨_, rfl⟩
  have mv : ∀ (S : Nat → Prop) (vv : Value) (ff : Option (List LE)) (w' : World), FodV w9 S vv ff → Below w9.heap.size w9 w' → (∀ b, S b → b < w9.heap.size) → FodV w' (Old w') vv ff := fun S vv ff w' h hb hS => (h.later hb hS).sub fun b h => Nat.lt_of_lt_of_le (hS b h) hb.size
  have W1 := Lib.hid (walk_at w9 _ _ f fv [] (keep (g.getD []) ++ keep (k.getD [])) (mv _ _ _ _ O1i.out (Below.refl _ _) fun b h => by have := h.2; omega) FO9.out (by rw [HFV.out]; simp) 0 k1 rfl (by simpa using hk1))
  have W2 := Lib.hid fun w' (hb : Below w9.heap.size w9 w') => walk_at w' _ _ g fv (keep (f.getD [])) (keep (k.getD [])) (mv _ _ _ _ O2i.out hb fun b h => by have := h.2; omega) (mv _ _ _ _ FO9.out hb fun b h => h) HFV.out k1 (k1 + k2) hk1 (by rw [hk1, hk2])
  have W3 := Lib.hid fun w' (hb : Below w9.heap.size w9 w') => walk_at w' _ _ k fv (keep (f.getD []) ++ keep (g.getD [])) [] (mv _ _ _ _ O3i.out hb fun b h => by have := h.2; omega) (mv _ _ _ _ FO9.out hb fun b h => h) (by rw [HFV.out]; simp) (k1 + k2) (k1 + k2 + k3) (by rw [List.length_append, hk1, hk2]) (by rw [List.length_append, hk1, hk2, hk3])
  have HE : ly = k1 + k2 + k3 := by rw [HLY.out, HFV.out, List.length_append, List.length_append, hk1, hk2, hk3]
  have HEH := Lib.hid HE
  have hk1b : k1 ≤ 2097152 := by have := keep_le (f.getD []); have := HFL.out; omega
  have hk2b : k2 ≤ 2097152 := by have := keep_le (g.getD []); have := HGL.out; omega
  have hk3b : k3 ≤ 2097152 := by have := keep_le (k.getD []); have := HKL.out; omega
  clear HE hk1 hk2 hk3 mv HLY HFV FO9 O1i O2i O3i
  go_wp2_with fail
  refine W1.out.mono ?_
  rintro e w10 ⟨rfl, hb10⟩
  have HB10 := Lib.hid hb10
  clear W1 hb10
  go_wp2_with fail
  refine (W2.out w10 HB10.out).mono ?_
  rintro e w11 ⟨rfl, hb11⟩
  have HB11 := Lib.hid (HB10.out.trans (hb11.mono HB10.out.size))
  clear W2 hb11 HB10
  go_wp2_with fail
  refine (W3.out w11 HB11.out).mono ?_
  rintro e w12 ⟨rfl, hb12⟩
  have HB12 := Lib.hid (HB9.out.trans ((HB11.out.trans (hb12.mono HB11.out.size)).mono HB9.out.size))
  obtain rfl := HEH.out
  clear hb12 W3
  go_wp2_with fail
  go_ret
  exact ⟨by simp, HB12.out⟩
end Go.Proofs.Ytofhjpmkpgbgiaa
