/- The walk of the law that the comment-only pass over a file is idempotent. -/
import Derived.Test.YtofhjpmkpgbgiaaFlg
import Derived.Test.YtofhjpmkpgbgiaaGrm
import Derived.Test.YtofhjpmkpgbgiaaSiz
namespace Go.Proofs.Ytofhjpmkpgbgiaa
open Go.RowKit
set_option linter.unusedVariables false

theorem keepE_keep (e : LE) : keep (keepE e) = keepE e := by
  unfold keepE
  split
  · simp [keep, keepE]
  · split
    · rename_i h1 h2
      simp [keep, keepE, h2]
    · simp [keep]
theorem keep_keep (es : List LE) : keep (keep es) = keep es := by
  induction es with
  | nil => rfl
  | cons e es ih =>
    have h2 : keep (e :: es) = keepE e ++ keep es := rfl
    rw [h2, keep_append, ih, keepE_keep]

set_option maxRecDepth 100000 in
set_option maxHeartbeats 6400000 in
theorem law17 (a : Option Addr) (n c : Nat) (zs : List ZE) (a2 : Option Addr) (n2 c2 : Nat) (zs2 : List ZE) (line col : Int) (w : World) (h : IsZs w a n c zs) (h2 : IsZs w a2 n2 c2 zs2) :
    Calls Try.prog 4 #[.slice a n c, .slice a2 n2 c2, .int .i64 line, .int .i64 col] w fun e w' => e = .returned (.bool true) ∧ Below w.heap.size w w' := by
  have G := Lib.hid (guard15 w a n c zs a2 n2 c2 zs2 line col h h2)
  have SZ := Lib.hid (size_any w a n c zs h)
  have SZ2 := Lib.hid (size_any w a2 n2 c2 zs2 h2)
  have H := Lib.hid h
  have H2 := Lib.hid h2
  clear h h2
  go_enter Try.func4, Try.ntmps4
  go_wp2_with fail
  refine G.out.mono ?_
  rintro e w1 ⟨r, rfl, rfl, hr⟩
  cases r
  · go_wp2_with fail
    go_ret
    exact ⟨rfl, Below.refl _ _⟩
  have HR := Lib.hid (hr rfl)
  clear hr G
  go_wp2_with fail
  refine SZ.out.mono ?_
  rintro e w1 ⟨m, rfl, rfl, hm⟩
  clear SZ
  go_wp2_with fail
  refine SZ2.out.mono ?_
  rintro e w1 ⟨m2, rfl, rfl, hm2⟩
  clear SZ2
  by_cases hmm : 1048576 < (m : Int) + m2
  · go_wp2_with fail
    go_ret
    exact ⟨rfl, Below.refl _ _⟩
  have hz := HR.out (n, zs) (by simp)
  have hz2 := HR.out (n2, zs2) (by simp)
  have T := Lib.hid fun w' (hw : IsZs w' a n c zs) => tofod_any w' a n c zs hw hz.1 hz.2
  have T2 := Lib.hid fun w' (hw : IsZs w' a2 n2 c2 zs2) => tofod_any w' a2 n2 c2 zs2 hw hz2.1 hz2.2
  have hfl : ((inF a zs).getD []).length ≤ 1048576 := by have := inF_len a zs; have := H.out.1; have := hz.1; simp at *; omega
  have hgl : ((inF a2 zs2).getD []).length ≤ 1048576 := by have := inF_len a2 zs2; have := H2.out.1; have := hz2.1; simp at *; omega
  have HFL := Lib.hid hfl
  have HGL := Lib.hid hgl
  clear HR hz hz2 hfl hgl
  generalize inF a zs = f at *
  generalize inF a2 zs2 = g at *
  go_wp2_with fail
  refine (new_any w).mono ?_
  rintro e w1 ⟨rfl, hw1⟩
  have al : Below w.heap.size w w1 := by rw [← hw1]; exact (Below.refl _ _).alloc (Nat.le_refl _) _
  have s1 : w1.heap.size = w.heap.size + 1 := by rw [← hw1]; simp
  have HB1 := Lib.hid al
  have P1 := Lib.hid (show Pass w1 w.heap.size (fun _ => False) (fun _ => False) [] by rw [← hw1]; exact Pass.fresh w _)
  clear al hw1
  go_wp2_with fail
  refine (T.out w1 (H.out.below HB1.out)).mono ?_
  rintro e w2 ⟨v, rfl, hv, hb⟩
  obtain ⟨x2, l2, d2, rfl, -⟩ := hv.is_slice
  have s2 := hb.size
  have HB2 := Lib.hid (HB1.out.trans (hb.mono HB1.out.size))
  have P2 := Lib.hid (P1.out.below hb fun b h => h.elim)
  have F2 := Lib.hid hv
  clear hv hb HB1 P1 T H
  go_wp2_with fail
  refine (T2.out w2 (H2.out.below HB2.out)).mono ?_
  rintro e w3 ⟨v, rfl, hv, hb⟩
  obtain ⟨x3, l3, d3, rfl, -⟩ := hv.is_slice
  have s3 := hb.size
  have HB3 := Lib.hid (HB2.out.trans (hb.mono HB2.out.size))
  have P3 := Lib.hid ((P2.out.below hb fun b h => h.elim).sub (T' := fun _ => False) (S' := New w1 w3) (fun b _ h => h) (fun b h => h.elim))
  have F2b := Lib.hid ((F2.out.later hb fun b h => h.2).sub (T := New w1 w3) fun b h => by have := h.1; have := h.2; exact ⟨by omega, by omega⟩)
  have F3 := Lib.hid (hv.sub (T := New w1 w3) fun b h => by have := h.1; have := h.2; exact ⟨by omega, by omega⟩)
  have hkf := keep_le (f.getD [])
  have hkg := keep_le (g.getD [])
  have hfl := HFL.out
  have hgl := HGL.out
  have hlen : (keep (f.getD []) ++ keep (g.getD [])).length ≤ 4194304 := by rw [List.length_append]; omega
  have HLEN := Lib.hid hlen
  have K := Lib.hid (over_null w3 w.heap.size (fun _ => False) (New w1 w3) [] x2 l2 d2 x3 l3 d3 line col f g P3.out F2b.out F3.out (fun b hb => by have := hb.1; have := hb.2; exact ⟨by omega, by omega, fun h => h⟩) (fun b hb => hb.elim) (by simp) (by omega) (by omega) (by simp only [List.length_append, List.nil_append] at *; omega))
  clear hv hb HB2 P2 F2 F2b F3 P3 T2 H2 hkf hkg hfl hgl hlen
  go_wp2_with fail
  refine K.out.mono ?_
  rintro e w4 ⟨y, ly, dy, fv, rfl, fo, hfv, fr4⟩
  rw [List.nil_append] at hfv
  have s4 := fr4.size
  have HB4 := Lib.hid (fr4.below HB3.out HB3.out.size (by rintro b (h | h); omega; exact h.elim))
  have FO4 := Lib.hid (fo.sub (T := Old w4) fun b h => by
    rcases h with h | h
    · have := h.2
      show b < _
      omega
    · exact h.2)
  have HFV := Lib.hid hfv
  clear fo hfv fr4 HB3 K
  go_wp2_with fail
  refine (clonef_any w4 _ fv FO4.out).mono ?_
  rintro e w5 ⟨v, rfl, hv, hb⟩
  obtain ⟨x5, l5, d5, rfl, -⟩ := hv.is_slice
  have s5 := hb.size
  have HB5 := Lib.hid (HB4.out.trans (hb.mono HB4.out.size))
  have FO5 := Lib.hid (FO4.out.later hb fun b h => h)
  have K5 := Lib.hid hv
  clear hv hb HB4 FO4
  go_wp2_with fail
  refine (new_any w5).mono ?_
  rintro e w6 ⟨rfl, hw6⟩
  have al : Below w5.heap.size w5 w6 := by rw [← hw6]; exact (Below.refl _ _).alloc (Nat.le_refl _) _
  have s6 : w6.heap.size = w5.heap.size + 1 := by rw [← hw6]; simp
  have HB6 := Lib.hid (HB5.out.trans (al.mono HB5.out.size))
  have FO6 := Lib.hid ((FO5.out.later al fun b (h : b < w4.heap.size) => by omega).sub (T := Old w6) fun b (h : b < w4.heap.size) => by show b < _; omega)
  have K6 := Lib.hid (K5.out.later al fun b h => h.2)
  have P6 := Lib.hid (show Pass w6 w5.heap.size (fun _ => False) (fun _ => False) [] by rw [← hw6]; exact Pass.fresh w5 _)
  clear al hw6 HB5 FO5 K5
  go_wp2_with fail
  refine (clonef_any w6 _ fv FO6.out).mono ?_
  rintro e w7 ⟨v, rfl, hv, hb⟩
  obtain ⟨x7, l7, d7, rfl, -⟩ := hv.is_slice
  have s7 := hb.size
  have HB7 := Lib.hid (HB6.out.trans (hb.mono HB6.out.size))
  have K7 := Lib.hid (K6.out.later hb fun b h => by have := h.2; omega)
  have P7 := Lib.hid ((P6.out.below hb fun b h => h.elim).sub (T' := fun _ => False) (S' := New w6 w7) (fun b _ h => h) (fun b h => h.elim))
  have hk1 : (fv.getD []).length ≤ 4194304 := by rw [HFV.out]; exact HLEN.out
  have hk2 := keep_le (fv.getD [])
  have KO := Lib.hid (over_null w7 w5.heap.size (fun _ => False) (New w6 w7) [] x7 l7 d7 none 0 0 line col fv none P7.out hv rfl (fun b hb => by have := hb.1; have := hb.2; exact ⟨by omega, by omega, fun h => h⟩) (fun b hb => hb.elim) (by simp) (by omega) (by simp) (by simp [keep] at *; omega))
  clear hv hb HB6 FO6 K6 P6 P7 hk1 hk2
  go_wp2_with fail
  refine KO.out.mono ?_
  rintro e w8 ⟨z, lz, dz, fz, rfl, fo, hfz, fr8⟩
  have s8 := fr8.size
  have HB8 := Lib.hid (fr8.below HB7.out HB7.out.size (by rintro b (h | h); omega; exact h.elim))
  have K8 := Lib.hid ((K7.out.keep (fr8.agree fun b hb => by have := hb.1; have := hb.2; exact ⟨by omega, by rintro (h | h); omega; exact h⟩)).sub (T := Old w8) fun b h => by have := h.2; show b < _; omega)
  have FO8 := Lib.hid (fo.sub (T := Old w8) fun b h => by
    rcases h with h | h
    · have := h.2
      show b < _
      omega
    · exact h.2)
  have HEQ : fv.getD [] = fz.getD [] := by
    have h0 : keep ((none : Option (List LE)).getD []) = [] := rfl
    rw [hfz, h0, List.nil_append, List.append_nil, HFV.out, ← keep_append, keep_keep]
  have KE := Lib.hid (fod_eq w8 _ _ fv fz K8.out FO8.out HEQ)
  have n4 : ∀ W, (binOp .neq 26 (.slice none 0 0) (.slice none 0 0)).run Try.prog W = .ok (.bool false) W := fun W => by kernel_rfl
  clear fo hfz fr8 HB7 KO K7 K8 FO8 HEQ
  go_wp2_with fail
  refine KE.out.mono ?_
  rintro e w9 ⟨rfl, hb9⟩
  have HB9 := Lib.hid (HB8.out.trans (hb9.mono HB8.out.size))
  clear hb9 KE
  go_wp2_with fail
  go_ret
  exact ⟨rfl, HB9.out⟩
end Go.Proofs.Ytofhjpmkpgbgiaa
