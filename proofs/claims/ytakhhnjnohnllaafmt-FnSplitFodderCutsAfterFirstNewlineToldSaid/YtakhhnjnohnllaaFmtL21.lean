/- The walk of the law that splitFodder keeps comments and blanks. -/
import Derived.Test.YtakhhnjnohnllaaFmtPur
import Derived.Test.YtakhhnjnohnllaaFmtGrd
namespace Go.Proofs.YtakhhnjnohnllaaFmt
open Go.RowKit
set_option linter.unusedVariables false

/-- A fodder in memory whose elements read es. -/
def FodG (w : World) (B : Nat) (v : Value) (es : List LE) : Prop := ∃ f, FodV w (fun b => b < B) v f ∧ f.getD [] = es
theorem FodG.is_sl {w : World} {B : Nat} {v : Value} {es : List LE} (h : FodG w B v es) : ∃ a c, v = .slice a es.length c := by
  obtain ⟨f, h1, rfl⟩ := h
  obtain ⟨a, c, h2, _⟩ := h1.open
  exact ⟨a, c, h2⟩
theorem FodG.below {w w' : World} {B : Nat} {v : Value} {es : List LE} (h : FodG w B v es) (hb : Below B w w') : FodG w' B v es := by
  obtain ⟨f, h1, h2⟩ := h
  exact ⟨f, h1.keep (Agree.of_below hb fun b h => h), h2⟩
theorem FodG.mono {w : World} {B B' : Nat} {v : Value} {es : List LE} (h : FodG w B v es) (hb : B ≤ B') : FodG w B' v es := by
  obtain ⟨f, h1, h2⟩ := h
  exact ⟨f, h1.sub fun b h => Nat.lt_of_lt_of_le h hb, h2⟩
theorem own_rd {w : World} {B base : Nat} {v : Value} {n : Nat} {xs : List Value} {a : Option Addr} {l c : Nat} (h : w.ownsRow base 9 1 v n xs) (hv : v = .slice a l c) : RdS w (Old w) a xs ∧ l = n := by
  rcases h.2 with ⟨hn, h0⟩ | ⟨g, cap, cur, hn, hb, hg, _⟩
  · have hx : xs = [] := List.length_eq_zero_iff.1 (by have := h.1; omega)
    rw [hn] at hv
    injection hv with _ h2 _
    exact ⟨.inl hx, by omega⟩
  · subst hn
    injection hv with h1 h2 h3
    subst h1
    refine ⟨.inr ⟨g, 0, rfl, (Array.getElem?_eq_some_iff.1 hg).1, fun i u hu => ?_⟩, h2.symm⟩
    have := h.cells (g := g) rfl i u hu
    rw [Go.WideShapes.add_plain] at this
    exact this

set_option maxRecDepth 100000 in
set_option maxHeartbeats 6400000 in
theorem law21 (a : Option Addr) (n c : Nat) (zs : List ZE) (w : World) (h : IsZs w a n c zs) : Calls Tryf.prog 3 #[.slice a n c] w fun e w' => e = .returned (.bool true) ∧ Below w.heap.size w w' := by
  have G := Lib.hid (guard5 w a n c zs h)
  have SZ := Lib.hid (size6 w a n c zs h)
  have H := Lib.hid h
  clear h
  go_enter Tryf.func3, Tryf.ntmps3
  go_wp2_with fail
  refine G.out.mono ?_
  rintro e w1 ⟨r, rfl, rfl, hr⟩
  cases r
  · go_wp2_with fail
    go_ret
    exact ⟨rfl, Below.refl _ _⟩
  have HR := Lib.hid (hr rfl)
  clear hr G
  go_wp2_with fail
  refine SZ.out.mono ?_
  rintro e w1 ⟨m, rfl, rfl⟩
  clear SZ
  by_cases hm2 : (1048576 : Int) < m
  · go_wp2_with fail
    go_ret
    exact ⟨rfl, Below.refl _ _⟩
  have hz := HR.out (n, zs) (by simp)
  have T := Lib.hid fun w' (hw : IsZs w' a n c zs) => tofod7 w' a n c zs hw hz.1 hz.2
  have hln : ((inF a zs).getD []).length ≤ 1048576 := by
    cases a with
    | none => simp [inF]
    | some x => simp [inF]; have := H.out.1; omega
  have HLN := Lib.hid hln
  clear HR hz hln
  generalize inF a zs = f at *
  go_wp2_with fail
  refine (T.out w H.out).mono ?_
  rintro e w1 ⟨v, rfl, hv, hb⟩
  have HV := Lib.hid (show FodG w1 w1.heap.size v (f.getD []) from ⟨f, hv.sub fun b h => h.2, rfl⟩)
  obtain ⟨x, cx, rfl⟩ := HV.out.is_sl
  have HB := Lib.hid hb
  have HI := Lib.hid (H.out.below hb)
  clear hv hb
  go_wp2_with fail
  refine (T.out w1 HI.out).mono ?_
  rintro e w2 ⟨v2, rfl, hv2, hb2⟩
  have HV2 := Lib.hid (show FodG w2 w2.heap.size v2 (f.getD []) from ⟨f, hv2.sub fun b h => h.2, rfl⟩)
  have KS := Lib.hid (zzsplit8 w2 v2 f (hv2.sub fun b h => h.2) HLN.out)
  obtain ⟨y, cy, rfl⟩ := HV2.out.is_sl
  have HO := Lib.hid (HV.out.below hb2)
  have HB2 := Lib.hid (HB.out.trans (hb2.mono HB.out.size))
  have hs2 := hb2.size
  clear hv2 hb2 HV HV2 T HI H HB
  generalize f.getD [] = es at *
  go_wp2_with fail
  refine KS.out.mono ?_
  rintro e w3 ⟨av, bv, rfl, h1, h2, hb3⟩
  have HA := Lib.hid (show FodG w3 w3.heap.size av (splF es).1 from h1)
  have HBf := Lib.hid (show FodG w3 w3.heap.size bv (splF es).2.1 from h2)
  have hs3 := hb3.size
  have HO3 := Lib.hid ((HO.out.below (hb3.mono hs2)).mono (Nat.le_trans hs2 hs3))
  have HB3 := Lib.hid (HB2.out.trans (hb3.mono HB2.out.size))
  have hle := splF_le es
  have HCO := Lib.hid (splF_coms es)
  have HSU := Lib.hid (splF_sums es)
  obtain ⟨aa, ca, rfl⟩ := HA.out.is_sl
  obtain ⟨ab, cb, rfl⟩ := HBf.out.is_sl
  have hln := HLN.out
  clear h1 h2 hb3 KS HO HB2 HLN
  generalize (splF es).1 = L1 at *
  generalize (splF es).2.1 = L2 at *
  have S1 : Hid (Calls Tryf.prog 9 #[.slice aa L1.length ca] w3 fun e w' => e = .returned (.int .i64 (sumB L1)) ∧ w3 = w') := Lib.hid (by obtain ⟨f1, q1, q2⟩ := HA.out; have := sum9 w3 _ f1 q1; rwa [q2] at this)
  have S2 : Hid (Calls Tryf.prog 9 #[.slice ab L2.length cb] w3 fun e w' => e = .returned (.int .i64 (sumB L2)) ∧ w3 = w') := Lib.hid (by obtain ⟨f1, q1, q2⟩ := HBf.out; have := sum9 w3 _ f1 q1; rwa [q2] at this)
  have S3 : Hid (Calls Tryf.prog 9 #[.slice x es.length cx] w3 fun e w' => e = .returned (.int .i64 (sumB es)) ∧ w3 = w') := Lib.hid (by obtain ⟨f1, q1, q2⟩ := HO3.out; have := sum9 w3 _ f1 q1; rwa [q2] at this)
  go_wp2_with fail
  refine S1.out.mono ?_
  rintro e w4 ⟨rfl, rfl⟩
  go_wp2_with fail
  refine S2.out.mono ?_
  rintro e w4 ⟨rfl, rfl⟩
  go_wp2_with fail
  refine S3.out.mono ?_
  rintro e w4 ⟨rfl, rfl⟩
  have hsum := HSU.out
  clear S1 S2 S3 HSU
  have KA : Hid (Calls Tryf.prog 10 #[.slice none 0 0, .slice x es.length cx] w3 (Comd w3 w3.heap.size (coms es) (0 + es.length * 1048576))) := Lib.hid (by obtain ⟨f1, q1, q2⟩ := HO3.out; have := apc10 w3 w3.heap.size (Nat.le_refl _) (.slice none 0 0) _ [] f1 (World.ownsRow_nil _ _ _ _) q1 (by rw [q2]; simp; omega); rwa [q2, List.nil_append] at this)
  go_wp2_with fail
  refine KA.out.mono ?_
  rintro e w4 ⟨v4, rfl, ho4, hb4, -⟩
  have h4s : ∃ x l c, v4 = .slice x l c := by rcases ho4.2 with ⟨rfl, _⟩ | ⟨q, cap, cur, rfl, _⟩ <;> exact ⟨_, _, _, rfl⟩
  obtain ⟨x4, l4, c4, rfl⟩ := h4s
  have HO4 := Lib.hid ho4
  have HA4 := Lib.hid ((HA.out.below hb4))
  have HB4 := Lib.hid ((HBf.out.below hb4))
  have hs4 := hb4.size
  have HBB4 := Lib.hid (HB3.out.trans (hb4.mono HB3.out.size))
  clear ho4 hb4 KA HA HBf HB3 HO3
  have KB : Hid (Calls Tryf.prog 10 #[.slice none 0 0, .slice aa L1.length ca] w4 (Comd w4 w4.heap.size (coms L1) (0 + L1.length * 1048576))) := Lib.hid (by obtain ⟨f1, q1, q2⟩ := HA4.out; have := apc10 w4 w4.heap.size (Nat.le_refl _) (.slice none 0 0) _ [] f1 (World.ownsRow_nil _ _ _ _) (q1.sub fun b h => Nat.lt_of_lt_of_le h hs4) (by rw [q2]; simp; omega); rwa [q2, List.nil_append] at this)
  go_wp2_with fail
  refine KB.out.mono ?_
  rintro e w5 ⟨v5, rfl, ho5, hb5, hcl⟩
  have h5s : ∃ x l c, v5 = .slice x l c := by rcases ho5.2 with ⟨rfl, _⟩ | ⟨q, cap, cur, rfl, _⟩ <;> exact ⟨_, _, _, rfl⟩
  obtain ⟨x5, l5, c5, rfl⟩ := h5s
  have HO5 := Lib.hid ho5
  have HB5 := Lib.hid (HB4.out.below (hb5.mono hs4))
  have hs5 := hb5.size
  have HWS := HBB4.out.size
  have HBB5 := Lib.hid (HBB4.out.trans (hb5.mono HBB4.out.size))
  have R4 := Lib.hid ((own_rd (B := 0) HO4.out rfl).1.keep (Agree.of_below hb5 fun b h => h))
  have hl4 := (own_rd (B := 0) HO4.out rfl).2
  clear ho5 hb5 KB HO4 HA4 HB4 HBB4
  have KC : Hid (Calls Tryf.prog 10 #[.slice x5 l5 c5, .slice ab L2.length cb] w5 (Comd w5 w4.heap.size (coms L1 ++ coms L2) ((coms L1).length + L2.length * 1048576))) := Lib.hid (by obtain ⟨f1, q1, q2⟩ := HB5.out; have := apc10 w5 w4.heap.size hs5 _ _ (coms L1) f1 HO5.out (q1.sub fun b h => Nat.lt_of_lt_of_le h hs4) (by rw [q2]; omega); rwa [q2] at this)
  go_wp2_with fail
  refine KC.out.mono ?_
  rintro e w6 ⟨v6, rfl, ho6, hb6, -⟩
  have h6s : ∃ x l c, v6 = .slice x l c := by rcases ho6.2 with ⟨rfl, _⟩ | ⟨q, cap, cur, rfl, _⟩ <;> exact ⟨_, _, _, rfl⟩
  obtain ⟨x6, l6, c6, rfl⟩ := h6s
  rw [HCO.out] at ho6
  have R6 := Lib.hid (own_rd (B := 0) ho6 rfl).1
  have hl6 := (own_rd (B := 0) ho6 rfl).2
  have hws : w.heap.size ≤ w4.heap.size := HWS
  have HBB6 := Lib.hid (HBB5.out.trans (hb6.mono hws))
  have R46 := Lib.hid ((R4.out.keep (Agree.of_below hb6 fun b h => h)).sub fun b (h : b < w4.heap.size) => (Nat.lt_of_lt_of_le h (Nat.le_trans hs5 hb6.size) : b < w6.heap.size))
  have hcn : (coms es).length ≤ 9223372036854775807 := by have := ho6.1; rcases ho6.2 with ⟨_, h0⟩ | ⟨q, cap, cur, _, _, _, h1, h2, _⟩; omega; unfold maxLen at h2; omega
  subst hl4 hl6
  clear ho6 hb6
  go_wp2_with fail
  refine (str11 w6 x6 x4 _ _ _ (coms es) R6.out R46.out rfl hcn).mono ?_
  rintro e w7 ⟨rfl, hb7⟩
  have HBB7 := Lib.hid (HBB6.out.trans (hb7.mono HBB6.out.size))
  clear hb7
  go_wp2_with fail
  go_ret
  exact ⟨rfl, HBB7.out⟩
end Go.Proofs.YtakhhnjnohnllaaFmt
