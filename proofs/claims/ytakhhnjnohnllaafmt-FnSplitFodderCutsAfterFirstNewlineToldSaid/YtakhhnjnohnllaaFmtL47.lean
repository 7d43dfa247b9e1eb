/- The walk of the law on where splitFodder cuts. -/
import Derived.Test.YtakhhnjnohnllaaFmtL21
namespace Go.Proofs.YtakhhnjnohnllaaFmt
open Go.RowKit
set_option linter.unusedVariables false

theorem cut_or (es : List LE) : (∀ x ∈ es, x.kind = 1) ∨ ∃ pre e post, es = pre ++ e :: post ∧ (∀ x ∈ pre, x.kind = 1) ∧ e.kind ≠ 1 := by
  induction es with
  | nil => exact .inl fun x h => by simp at h
  | cons e es ih =>
    by_cases he : e.kind = 1
    · rcases ih with h | ⟨pre, e2, post, rfl, h1, h2⟩
      · exact .inl fun x hx => by rcases List.mem_cons.1 hx with rfl | hx; exact he; exact h x hx
      · exact .inr ⟨e :: pre, e2, post, rfl, fun x hx => by rcases List.mem_cons.1 hx with rfl | hx; exact he; exact h1 x hx, h2⟩
    · exact .inr ⟨[], e, es, rfl, fun x h => by simp at h, he⟩
theorem cut_facts (es : List LE) : (∀ x ∈ es, x.kind = 1) ∨ ∃ K e, es[K]? = some e ∧ e.kind ≠ 1 ∧ (splF es).1.length = K + 1 ∧ (∀ i x, i < K → es[i]? = some x → x.kind = 1 ∧ (splF es).1[i]? = some x) ∧ (splF es).1[K]? = some ⟨e.kind, if 0 < e.blanks then 0 else e.blanks, e.indent, e.com⟩ ∧
    (es.length = K + 1 → (splF es).2.1 = if 0 < e.blanks then [⟨0, e.blanks, e.indent, none⟩] else []) ∧ (es.length ≠ K + 1 → 0 < (splF es).2.1.length) := by
  rcases cut_or es with h | ⟨pre, e, post, rfl, h1, h2⟩
  · exact .inl h
  · refine .inr ⟨pre.length, e, by simp, h2, ?_⟩
    rw [splF_cut pre post e h1 h2]
    have hlen : (pre ++ e :: post).length = pre.length + 1 + post.length := by simp; omega
    have hpre : ∀ (i : Nat) (x y : LE), i < pre.length → (pre ++ e :: post)[i]? = some x → x.kind = 1 ∧ (pre ++ [y])[i]? = some x := by
      intro i x y hi hx
      rw [List.getElem?_append_left hi] at hx ⊢
      exact ⟨h1 x (List.mem_of_getElem? hx), hx⟩
    split
    · next hb =>
      refine ⟨by simp, fun i x hi hx => hpre i x _ hi hx, by simp, ?_, ?_⟩
      · intro h
        have : post = [] := List.length_eq_zero_iff.1 (by omega)
        subst this
        rfl
      · intro h
        exact List.length_pos_iff.2 (foldl_fapp_ne _ _ (.inl (by simp)))
    · next hb =>
      refine ⟨by simp, fun i x hi hx => hpre i x _ hi hx, by simp, ?_, ?_⟩
      · intro h
        have : post = [] := List.length_eq_zero_iff.1 (by omega)
        subst this
        rfl
      · intro h
        exact List.length_pos_iff.2 (foldl_fapp_ne _ _ (.inr (by intro h9; subst h9; exact h (by simp))))
theorem FodG.fodIs {w : World} {B : Nat} {a : Option Addr} {n c : Nat} {es : List LE} (h : FodG w B (.slice a n c) es) : FodIs w (fun b => b < B) a es := by
  obtain ⟨f, h1, rfl⟩ := h
  obtain ⟨a', c', h2, _, h3, _⟩ := h1.open
  injection h2 with h2
  subst h2
  exact h3

set_option maxRecDepth 100000 in
set_option maxHeartbeats 6400000 in
theorem law47 (a : Option Addr) (n c : Nat) (zs : List ZE) (w : World) (h : IsZs w a n c zs) : Calls Tryf.prog 4 #[.slice a n c] w fun e w' => e = .returned (.bool true) ∧ Below w.heap.size w w' := by
  have G := Lib.hid (guard12 w a n c zs h)
  have SZ := Lib.hid (size6 w a n c zs h)
  have H := Lib.hid h
  clear h
  go_enter Tryf.func4, Tryf.ntmps4
  go_wp2_with fail
  refine G.out.mono ?_
  rintro e w1 ⟨r, rfl, rfl, hr⟩
  cases r
  · go_wp2_with fail
    go_ret
    exact ⟨rfl, Below.refl _ _⟩
  have HR := Lib.hid (hr rfl)
  clear hr G
  go_wp2_with fail
  refine SZ.out.mono ?_
  rintro e w1 ⟨m, rfl, rfl⟩
  clear SZ
  by_cases hm2 : (1048576 : Int) < m
  · go_wp2_with fail
    go_ret
    exact ⟨rfl, Below.refl _ _⟩
  have hz := HR.out (n, zs) (by simp)
  have T := Lib.hid fun w' (hw : IsZs w' a n c zs) => tofod7 w' a n c zs hw hz.1 hz.2
  have hln : ((inF a zs).getD []).length ≤ 1048576 := by
    cases a with
    | none => simp [inF]
    | some x => simp [inF]; have := H.out.1; omega
  have HLN := Lib.hid hln
  clear HR hz hln
  generalize inF a zs = f at *
  go_wp2_with fail
  refine (T.out w H.out).mono ?_
  rintro e w1 ⟨v, rfl, hv, hb⟩
  have HV := Lib.hid (show FodG w1 w1.heap.size v (f.getD []) from ⟨f, hv.sub fun b h => h.2, rfl⟩)
  obtain ⟨x, cx, rfl⟩ := HV.out.is_sl
  have HB := Lib.hid hb
  have HI := Lib.hid (H.out.below hb)
  clear hv hb
  go_wp2_with fail
  refine (T.out w1 HI.out).mono ?_
  rintro e w2 ⟨v2, rfl, hv2, hb2⟩
  have HV2 := Lib.hid (show FodG w2 w2.heap.size v2 (f.getD []) from ⟨f, hv2.sub fun b h => h.2, rfl⟩)
  have KS := Lib.hid (zzsplit8 w2 v2 f (hv2.sub fun b h => h.2) HLN.out)
  obtain ⟨y, cy, rfl⟩ := HV2.out.is_sl
  have HO := Lib.hid (HV.out.below hb2)
  have HB2 := Lib.hid (HB.out.trans (hb2.mono HB.out.size))
  have hs2 := hb2.size
  clear hv2 hb2 HV HV2 T HI H HB
  generalize f.getD [] = es at *
  go_wp2_with fail
  refine KS.out.mono ?_
  rintro e w3 ⟨av, bv, rfl, h1, h2, hb3⟩
  have HA := Lib.hid (show FodG w3 w3.heap.size av (splF es).1 from h1)
  have HBf := Lib.hid (show FodG w3 w3.heap.size bv (splF es).2.1 from h2)
  have hs3 := hb3.size
  have HO3 := Lib.hid ((HO.out.below (hb3.mono hs2)).mono (Nat.le_trans hs2 hs3))
  have HB3 := Lib.hid (HB2.out.trans (hb3.mono HB2.out.size))
  have hle := splF_le es
  obtain ⟨aa, ca, rfl⟩ := HA.out.is_sl
  obtain ⟨ab, cb, rfl⟩ := HBf.out.is_sl
  have hln := HLN.out
  clear h1 h2 hb3 KS HO HB2 HLN
  have FO := Lib.hid HO3.out.fodIs
  have FA := Lib.hid HA.out.fodIs
  have FB := Lib.hid HBf.out.fodIs
  clear HO3 HA HBf
  generalize hn : es.length = ne at *
  have HN := Lib.hid hn
  rcases cut_facts es with hall | ⟨K, e, hat, hek, hl1, hpre, hlast, hend, hmore⟩
  · have hs := splF_all es hall
    rw [hs] at FA FB ⊢
    rw [hs] at hle
    have HALL := Lib.hid hall
    simp only [hn, List.length_nil] at FA FB ⊢
    clear hs hall hn hle
    go_wp2_with fail
    go_loop [7, 8] (fun t i => ∃ k : Nat, k ≤ ne ∧ i = .int .i64 k ∧ t = .int .i64 (-1)) (fun _ i => ne - (intOf i).toNat)
    case atStart => exact ⟨0, Nat.zero_le _, rfl, rfl⟩
    case round =>
      obtain ⟨k, hk, rfl, rfl⟩ := hrel
      by_cases hlt : k < ne
      · obtain ⟨e, he⟩ : ∃ e, es[k]? = some e := ⟨es[k]'(by rw [HN.out]; exact hlt), by simp⟩
        obtain ⟨b2, o2, m2, e2, hb2, hc2, y0, y1, y2, y3⟩ := FO.out.at he
        subst e2
        have hkd := HALL.out e (List.mem_of_getElem? he)
        clear hc2 he y0 y2 y3
        obtain ⟨kd, bl, ind, cm⟩ := e
        simp only at y1 hkd
        subst hkd
        go_wp2
        go_round
        case rel => exact ⟨k + 1, by omega, by go_num, rfl⟩
        case measure => simp [intOf]; omega
      · obtain rfl : k = ne := by omega
        go_wp2_with fail
        go_loopw [9] (fun i wr => ∃ j : Nat, j ≤ k ∧ i = .int .i64 j ∧ Hid (Below w3.heap.size w3 wr)) (fun i _ => k - (intOf i).toNat)
        case atStart => exact ⟨0, Nat.zero_le _, rfl, Lib.hid (Below.refl _ _)⟩
        case round =>
          obtain ⟨j, hj, rfl, hbel⟩ := hrel
          by_cases hlt2 : j < k
          · obtain ⟨e, he⟩ : ∃ e, es[j]? = some e := ⟨es[j]'(by rw [HN.out]; exact hlt2), by simp⟩
            have hag : Agree (fun b => b < w3.heap.size) w3 wr := Agree.of_below hbel.out fun b h => h
            have hsub : ∀ b, b < w3.heap.size → Old wr b := fun b h => Nat.lt_of_lt_of_le h hbel.out.size
            obtain ⟨b1, o1, m1, e1, hb1, hc1, x0, x1, x2, x3⟩ := (FA.out.keep hag).at he
            obtain ⟨b2, o2, m2, e2, hb2, hc2, y0, y1, y2, y3⟩ := (FO.out.keep hag).at he
            subst e1 e2
            have K := Lib.hid (elem13 wr.drew m1 m2 e.kind e.blanks e.indent e.com e.com ((hc1.sub hsub).keep (Agree.drew _ _)) ((hc2.sub hsub).keep (Agree.drew _ _)) rfl)
            obtain ⟨q1, q2, q3, rfl⟩ := hc1.is_slice
            obtain ⟨r1, r2, r3, rfl⟩ := hc2.is_slice
            have hb1w := hsub b1 hb1
            have hb2w := hsub b2 hb2
            clear hc1 hc2 hag hsub he
            obtain ⟨kd, bl, ind, cm⟩ := e
            simp only at x0 x1 x2 x3 y0 y1 y2 y3
            go_wp2_with fail
            refine wp_region_tail 8 (by kernel_rfl) (by kernel_rfl) ?_
            simp only [List.take_succ_cons, List.take_zero, List.drop_succ_cons, List.drop_zero]
            repeat still_step
            refine wpStill_nil ?_
            go_wp2_with fail
            refine K.out.mono ?_
            rintro e w5 ⟨rfl, hb⟩
            have HBN := Lib.hid (hbel.out.drew.trans (hb.mono hbel.out.size))
            clear hb K
            go_wp2_with fail
            go_roundw
            case rel => exact ⟨j + 1, by omega, by go_num, HBN⟩
            case measure => simp [intOf]; omega
          · go_wp2_with fail
            have HBF := Lib.hid (HB3.out.trans (hbel.out.mono HB3.out.size))
            go_ret
            exact ⟨rfl, HBF.out⟩
  · generalize (splF es).1 = L1 at *
    generalize (splF es).2.1 = L2 at *
    have HAT := Lib.hid hat
    have HPRE := Lib.hid hpre
    have HLAST := Lib.hid hlast
    have HEND := Lib.hid hend
    have HMORE := Lib.hid hmore
    have hKn : K < ne := by rw [← hn]; exact (List.getElem?_eq_some_iff.1 hat).1
    have HL1 := Lib.hid hl1
    simp only [hl1]
    clear hat hpre hlast hend hmore hn hle hl1
    go_wp2_with fail
    go_loop [7, 8] (fun t i => ∃ k : Nat, k ≤ K ∧ i = .int .i64 k ∧ t = .int .i64 (-1)) (fun _ i => K - (intOf i).toNat)
    case atStart => exact ⟨0, Nat.zero_le _, rfl, rfl⟩
    case round =>
      obtain ⟨k, hk, rfl, rfl⟩ := hrel
      by_cases hlt : k < K
      · obtain ⟨e1, he⟩ : ∃ e, es[k]? = some e := ⟨es[k]'(by rw [HN.out]; omega), by simp⟩
        obtain ⟨b2, o2, m2, e2, hb2, hc2, y0, y1, y2, y3⟩ := FO.out.at he
        subst e2
        have hkd := (HPRE.out k e1 hlt he).1
        have hkne : k < ne := by omega
        clear hc2 he y0 y2 y3
        obtain ⟨kd1, bl1, ind1, cm1⟩ := e1
        simp only at y1 hkd
        subst hkd
        go_wp2
        go_round
        case rel => exact ⟨k + 1, by omega, by go_num, rfl⟩
        case measure => simp [intOf]; omega
      · obtain rfl : k = K := by omega
        obtain ⟨b2, o2, m2, e2, hb2, hc2, y0, y1, y2, y3⟩ := FO.out.at HAT.out
        subst e2
        have hk1 : (e.kind == 1) = false := by simpa using hek
        have hk2 : (e.kind != 1) = true := by simpa using hek
        clear hc2 y0 y2 y3
        go_wp2_with fail
        go_loopw [10] (fun i wr => ∃ j : Nat, j ≤ k ∧ i = .int .i64 j ∧ Hid (Below w3.heap.size w3 wr)) (fun i _ => k - (intOf i).toNat)
        case atStart => exact ⟨0, Nat.zero_le _, rfl, Lib.hid (Below.refl _ _)⟩
        case round =>
          clear y1 hk1 hk2 hb2
          obtain ⟨j, hj, rfl, hbel⟩ := hrel
          by_cases hlt2 : j < k
          · obtain ⟨e3, he⟩ : ∃ e, es[j]? = some e := ⟨es[j]'(by rw [HN.out]; omega), by simp⟩
            have heA := (HPRE.out j e3 hlt2 he).2
            have hjn : j < ne := by omega
            have hjk : j < k + 1 := by omega
            have hjk2 : (j : Int) < (k : Int) + 1 := by omega
            have hag : Agree (fun b => b < w3.heap.size) w3 wr := Agree.of_below hbel.out fun b h => h
            have hsub : ∀ b, b < w3.heap.size → Old wr b := fun b h => Nat.lt_of_lt_of_le h hbel.out.size
            obtain ⟨b1, o1, m1, e1, hb1, hc1, x0, x1, x2, x3⟩ := (FA.out.keep hag).at heA
            obtain ⟨b3, o3, m2, e2, hb2, hc2, y0, y1, y2, y3⟩ := (FO.out.keep hag).at he
            subst e1; obtain ⟨rfl, rfl⟩ : b2 = b3 ∧ o2 = o3 := by (injection e2 with e4; injection e4 with h1 h2; exact ⟨h1, h2⟩)
            have K := Lib.hid (elem13 wr.drew m1 m2 e3.kind e3.blanks e3.indent e3.com e3.com ((hc1.sub hsub).keep (Agree.drew _ _)) ((hc2.sub hsub).keep (Agree.drew _ _)) rfl)
            obtain ⟨q1, q2, q3, rfl⟩ := hc1.is_slice
            obtain ⟨r1, r2, r3, rfl⟩ := hc2.is_slice
            have hb1w := hsub b1 hb1
            have hb2w := hsub b2 hb2
            clear hc1 hc2 hag hsub he heA
            obtain ⟨kd, bl, ind, cm⟩ := e3
            simp only at x0 x1 x2 x3 y0 y1 y2 y3
            go_wp2_with fail
            refine wp_region_tail 8 (by kernel_rfl) (by kernel_rfl) ?_
            simp only [List.take_succ_cons, List.take_zero, List.drop_succ_cons, List.drop_zero]
            repeat still_step
            refine wpStill_nil ?_
            go_wp2_with fail
            refine K.out.mono ?_
            rintro e w5 ⟨rfl, hb⟩
            have HBN := Lib.hid (hbel.out.drew.trans (hb.mono hbel.out.size))
            clear hb K
            go_wp2_with fail
            go_roundw
            case rel => exact ⟨j + 1, by omega, by go_num, HBN⟩
            case measure => simp [intOf]; omega
          · obtain rfl : j = k := by omega
            have hag : Agree (fun b => b < w3.heap.size) w3 wr := Agree.of_below hbel.out fun b h => h
            have hsub : ∀ b, b < w3.heap.size → Old wr b := fun b h => Nat.lt_of_lt_of_le h hbel.out.size
            obtain ⟨b1, o1, m1, e1, hb1, hc1, x0, x1, x2, x3⟩ := (FA.out.keep hag).at HLAST.out
            obtain ⟨b3, o3, m3, e4, hb3, hc3, y0, y1, y2, y3⟩ := (FO.out.keep hag).at HAT.out
            subst e1
            obtain ⟨rfl, rfl⟩ : b2 = b3 ∧ o2 = o3 := by injection e4 with e4; injection e4 with h1 h2; exact ⟨h1, h2⟩
            have hb1w : b1 < wr.heap.size := hsub b1 hb1
            have hb3w : b2 < wr.heap.size := hsub b2 hb3
            have HC1 := Lib.hid ((hc1.sub hsub))
            have HC3 := Lib.hid ((hc3.sub hsub))
            obtain ⟨q1, q2, q3, rfl⟩ := hc1.is_slice
            obtain ⟨r1, r2, r3, rfl⟩ := hc3.is_slice
            have HEND := Lib.hid (fun h => HEND.out (HN.out.trans h))
            have HMORE := Lib.hid (fun h : ne ≠ j + 1 => HMORE.out (fun h2 => h (HN.out.symm.trans h2)))
            clear hc1 hc3 e4 hag HAT HLAST HPRE
            obtain ⟨kd, bl, ind, cm⟩ := e
            simp only at x0 x1 x2 x3 y0 y1 y2 y3 HC1 HC3 HEND hek
            by_cases hbl : 0 < bl
            · simp only [if_pos hbl] at x2 HEND
              have KC := Lib.hid (coms_eq (wr.alloc (.cells #[.slice q1 q2 q3, .int .i64 kd, .int .i64 0, .int .i64 ind] 36)).drew _ _ cm cm ((HC1.out.keep (Agree.alloc _ wr (.cells #[.slice q1 q2 q3, .int .i64 kd, .int .i64 0, .int .i64 ind] 36) fun b h => h)).sub fun b (h : b < wr.heap.size) => by show b < _; simp; omega) ((HC3.out.keep (Agree.alloc _ wr (.cells #[.slice q1 q2 q3, .int .i64 kd, .int .i64 0, .int .i64 ind] 36) fun b h => h)).sub fun b (h : b < wr.heap.size) => by show b < _; simp; omega) rfl)
              have hjk2 : (j : Int) < (j : Int) + 1 := by omega
              have hszw : (wr.alloc (.cells #[.slice q1 q2 q3, .int .i64 kd, .int .i64 0, .int .i64 ind] 36)).drew.heap.size = wr.heap.size + 1 := by show (wr.alloc _).heap.size = _; simp
              go_wp2_with fail
              refine wp_region_tail 32 (by kernel_rfl) (by kernel_rfl) ?_
              simp only [List.take_succ_cons, List.take_zero, List.drop_succ_cons, List.drop_zero]
              repeat still_step
              refine wpStill_nil ?_
              go_wp2_with fail
              refine KC.out.mono ?_
              rintro e w6 ⟨rfl, hb6⟩
              have hwl : w3.heap.size ≤ wr.heap.size := hbel.out.size
              have HB6 := Lib.hid (((hbel.out.alloc hwl (.cells #[.slice q1 q2 q3, .int .i64 kd, .int .i64 0, .int .i64 ind] 36)).drew).trans (hb6.mono (by rw [hszw]; omega)))
              have z2 : w6.cell? ⟨b2, o2 + j * 4 + 2, none⟩ = some (.int .i64 bl) := (hb6.cell (p := ⟨b2, o2 + j * 4 + 2, none⟩) (by rw [hszw]; show b2 < _; omega)).trans (by first | exact (World.cell?_alloc_lt _ _ _ hb3w).trans y2 | exact ((Below.refl wr.heap.size wr).alloc (Nat.le_refl _) (.cells #[.slice q1 q2 q3, .int .i64 kd, .int .i64 0, .int .i64 ind] 36)).cell (p := ⟨b2, o2 + j * 4 + 2, none⟩) hb3w |>.trans y2)
              have z3 : w6.cell? ⟨b2, o2 + j * 4 + 3, none⟩ = some (.int .i64 ind) := (hb6.cell (p := ⟨b2, o2 + j * 4 + 3, none⟩) (by rw [hszw]; show b2 < _; omega)).trans (((Below.refl wr.heap.size wr).alloc (Nat.le_refl _) (.cells #[.slice q1 q2 q3, .int .i64 kd, .int .i64 0, .int .i64 ind] 36)).cell (p := ⟨b2, o2 + j * 4 + 3, none⟩) hb3w |>.trans y3)
              have hb26 : b2 < w6.heap.size := by have := hb6.size; rw [hszw] at this; omega
              clear hb6 KC x0 x1 x2 x3 y0 y1 y2 y3
              have HBF := Lib.hid (HB3.out.trans (HB6.out.mono HB3.out.size))
              by_cases hp : ne = j + 1
              · subst hp
                have hL2 := HEND.out rfl
                subst hL2
                obtain ⟨b7, o7, m7, e7, hb7, hc7, u0, u1, u2, u3⟩ := (FB.out.keep (Agree.of_below HB6.out fun b h => h)).at (k := 0) (e := ⟨0, bl, ind, none⟩) rfl
                subst e7
                obtain rfl : m7 = .slice none 0 0 := hc7
                simp only [Nat.zero_mul, Nat.add_zero, List.length_cons, List.length_nil] at u0 u1 u2 u3 ⊢
                have hb7w : b7 < w6.heap.size := Nat.lt_of_lt_of_le hb7 HB6.out.size
                have hj1 : (j : Int) + 1 - 1 = j := by omega
                go_wp2_with fail
                go_quiet (fail)
                go_wp2_with fail
                go_ret
                exact ⟨rfl, ⟨HBF.out.os, HBF.out.tape, HBF.out.output, HBF.out.size, HBF.out.block⟩⟩
              · have hlp := HMORE.out hp
                have hp2 : ((j : Int) == (ne : Int) - 1) = false := by simp; omega
                have hp3 : ¬ (j : Int) = (ne : Int) - 1 := by omega
                go_wp2_with fail
                go_ret
                exact ⟨by first | rfl | simp, HBF.out⟩
            · simp only [if_neg hbl] at x2 HEND
              have hbl2 : decide (0 < bl) = false := by simpa using hbl
              have KC := Lib.hid (coms_eq (wr.alloc (.cells #[.slice q1 q2 q3, .int .i64 kd, .int .i64 bl, .int .i64 ind] 36)).drew _ _ cm cm ((HC1.out.keep (Agree.alloc _ wr (.cells #[.slice q1 q2 q3, .int .i64 kd, .int .i64 bl, .int .i64 ind] 36) fun b h => h)).sub fun b (h : b < wr.heap.size) => by show b < _; simp; omega) ((HC3.out.keep (Agree.alloc _ wr (.cells #[.slice q1 q2 q3, .int .i64 kd, .int .i64 bl, .int .i64 ind] 36) fun b h => h)).sub fun b (h : b < wr.heap.size) => by show b < _; simp; omega) rfl)
              have hjk2 : (j : Int) < (j : Int) + 1 := by omega
              have hszw : (wr.alloc (.cells #[.slice q1 q2 q3, .int .i64 kd, .int .i64 bl, .int .i64 ind] 36)).drew.heap.size = wr.heap.size + 1 := by show (wr.alloc _).heap.size = _; simp
              go_wp2_with fail
              refine wp_region_tail 32 (by kernel_rfl) (by kernel_rfl) ?_
              simp only [List.take_succ_cons, List.take_zero, List.drop_succ_cons, List.drop_zero]
              repeat still_step
              refine wpStill_nil ?_
              go_wp2_with fail
              refine KC.out.mono ?_
              rintro e w6 ⟨rfl, hb6⟩
              have hwl : w3.heap.size ≤ wr.heap.size := hbel.out.size
              have HB6 := Lib.hid (((hbel.out.alloc hwl (.cells #[.slice q1 q2 q3, .int .i64 kd, .int .i64 bl, .int .i64 ind] 36)).drew).trans (hb6.mono (by rw [hszw]; omega)))
              have z2 : w6.cell? ⟨b2, o2 + j * 4 + 2, none⟩ = some (.int .i64 bl) := (hb6.cell (p := ⟨b2, o2 + j * 4 + 2, none⟩) (by rw [hszw]; show b2 < _; omega)).trans (by first | exact (World.cell?_alloc_lt _ _ _ hb3w).trans y2 | exact ((Below.refl wr.heap.size wr).alloc (Nat.le_refl _) (.cells #[.slice q1 q2 q3, .int .i64 kd, .int .i64 bl, .int .i64 ind] 36)).cell (p := ⟨b2, o2 + j * 4 + 2, none⟩) hb3w |>.trans y2)
              have z3 : w6.cell? ⟨b2, o2 + j * 4 + 3, none⟩ = some (.int .i64 ind) := (hb6.cell (p := ⟨b2, o2 + j * 4 + 3, none⟩) (by rw [hszw]; show b2 < _; omega)).trans (((Below.refl wr.heap.size wr).alloc (Nat.le_refl _) (.cells #[.slice q1 q2 q3, .int .i64 kd, .int .i64 bl, .int .i64 ind] 36)).cell (p := ⟨b2, o2 + j * 4 + 3, none⟩) hb3w |>.trans y3)
              have hb26 : b2 < w6.heap.size := by have := hb6.size; rw [hszw] at this; omega
              clear hb6 KC x0 x1 x2 x3 y0 y1 y2 y3
              have HBF := Lib.hid (HB3.out.trans (HB6.out.mono HB3.out.size))
              by_cases hp : ne = j + 1
              · subst hp
                have hL2 := HEND.out rfl
                subst hL2
                have hj1 : (j : Int) + 1 - 1 = j := by omega
                simp only [List.length_nil]
                go_wp2_with fail
                go_ret
                exact ⟨rfl, HBF.out⟩
              · have hlp := HMORE.out hp
                have hp2 : ((j : Int) == (ne : Int) - 1) = false := by simp; omega
                have hp3 : ¬ (j : Int) = (ne : Int) - 1 := by omega
                go_wp2_with fail
                go_ret
                exact ⟨by first | rfl | simp, HBF.out⟩
end Go.Proofs.YtakhhnjnohnllaaFmt
