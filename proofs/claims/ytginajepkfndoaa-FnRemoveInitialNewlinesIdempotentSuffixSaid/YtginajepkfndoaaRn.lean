/- removeInitialNewlines once more: the spine stays, the fodder stays other than nil. The walk of FnRemoveInitialNewlinesIdempotentSuffix. -/
import Derived.Test.YtginajepkfndoaaRm
namespace Go.Proofs.Ytginajepkfndoaa
open Go.RowKit
set_option linter.unusedVariables false

/-- The leaf's fodder field, j elements cut off. -/
def RnRel (w : World) (X L q T b lb lo tl n : Nat) (es : List El) (k : Nat) (wr : World) : Prop :=
  Spine wr X L lb q T b ∧ ∃ (j : Nat) (x : Addr) (cs : Array Value), k = n - j ∧ j ≤ n ∧ Blk wr lb tl cs ∧ cs[lo]? = some (.slice (some x) (n - j) (n - j)) ∧ Rd wr wr.heap.size (some x) (cellsF (es.drop j)) ∧ cutF es = cutF (es.drop j) ∧ w.grownBy wr (some lb)

set_option maxRecDepth 100000 in
set_option maxHeartbeats 1600000 in
theorem remove2_any (w : World) (X L lb : Nat) (hL : isLeaf L) (q T b tl n : Nat) (cs : Array Value) (es : List El) (x : Addr) (hS : Spine w X L lb q T b) (hB : Blk w lb tl cs) (hc : cs[leafOff L]? = some (.slice (some x) n n)) (hlen : es.length = n) (hn : n ≤ 65536) (hco : Coms es) (hr : Rd w w.heap.size (some x) (cellsF es)) :
    Calls Try.prog 26 #[.iface T (.pointer (some ⟨b, 0, none⟩))] w fun e w' => e = .returned (.tuple #[]) ∧ ∃ (x' : Addr) (cs' : Array Value), Blk w' lb tl cs' ∧ cs'[leafOff L]? = some (.slice (some x') (cutF es).length (cutF es).length) ∧ Rd w' w'.heap.size (some x') (cellsF (cutF es)) ∧ Spine w' X L lb q T b ∧ w.grownBy w' (some lb) := by
  have HS := Lib.hid hS
  have HL := Lib.hid hL
  have R0 : Hid (RnRel w X L q T b lb (leafOff L) tl n es n w) := ⟨hS, 0, x, cs, by omega, by omega, hB, hc, hr, rfl, World.grownBy.refl w _⟩
  have HN := Lib.hid hlen
  have HCO := Lib.hid hco
  clear hS hL hB hc hlen hr hco
  go_enter Try.func26, Try.ntmps26
  go_wp2_with fail
  refine (openF_any _ _ _ _ HL.out _ _ _ HS.out).mono ?_
  rintro e w1 ⟨rfl, rfl⟩
  generalize hlo : leafOff L = lo at *
  have HLO := Lib.hid hlo
  clear hlo
  go_wp2_with fail
  go_loopg [] n (fun k wr => RnRel w X L q T b lb lo tl n es k wr)
  case atStart => exact R0
  case round =>
    obtain ⟨hsp, j, x1', cs1, hk, hj, hB, hc, hr, hcut, hg⟩ := hrel
    have HSP := Lib.hid hsp
    clear hsp
    have c0 : wr.cell? ⟨lb, lo, none⟩ = some (.slice (some x1') (n - j) (n - j)) := by rw [hB.cell]; exact hc
    have f0 := hB.free lo
    have HB := Lib.hid hB
    have HCT := Lib.hid hcut
    have HG := Lib.hid hg
    have HR := Lib.hid hr
    have HCc := Lib.hid hc
    clear hB hc hr hcut hg
    by_cases hz : j < n
    · obtain ⟨e, he⟩ : ∃ e, es[j]? = some e := ⟨es[j]'(by rw [HN.out]; omega), by simp⟩
      have hd0 : (es.drop j)[0]? = some e := by rw [List.getElem?_drop]; exact he
      have HD := Lib.hid (show es.drop j = e :: es.drop (j + 1) from by
        obtain ⟨h1, h2⟩ := List.getElem?_eq_some_iff.1 he
        rw [List.drop_eq_getElem_cons h1, h2])
      obtain ⟨b2, off2, hx1, hb2, _, x1, _, _⟩ := row_at HR.out hd0
      obtain rfl := Option.some.inj hx1
      clear hx1
      simp only [Nat.zero_mul, Nat.add_zero] at x1
      clear hd0 he
      obtain ⟨m, hm⟩ : ∃ m, n - j = m + 1 := ⟨n - j - 1, by omega⟩
      rw [hm] at c0
      by_cases hk0 : e.kind = 0
      · have HK := Lib.hid hk0
        rw [hk0] at x1
        clear hk0
        have HM := Lib.hid hm
        clear hm
        have HNM := Lib.hid (big_not_mem (es := es.drop (j + 1)) (fun e he => HCO.out e (List.mem_of_mem_drop he)) (some ⟨b2, off2, none⟩) (m + 1) (m + 1) (by omega))
        have HC0 := Lib.hid c0
        have HCU := Lib.hid (show cutF es = cutF (es.drop (j + 1)) by rw [HCT.out, HD.out]; simp [cutF, HK.out])
        have HR1 := Lib.hid (show Rd wr wr.heap.size (some ⟨b2, off2 + 4, none⟩) (cellsF (es.drop (j + 1))) by
          have h4 := HR.out.drop 4
          rw [HD.out, cellsF_cons] at h4
          simpa [El.cells] using h4)
        go_wp2_with fail
        · rename_i hm0
          have hm1 := HM.out
          go_roundg (n - (j + 1))
          case measure => omega
          case rel =>
            refine ⟨Spine.setOther HC0.out (by intro U q h; cases h) _ _ _ HSP.out, j + 1, ⟨b2, off2, none⟩, _, rfl, by omega, HB.out.set lo _, ?_, .inl ?_, HCU.out, gset HG.out lo _⟩
            · rw [show n - (j + 1) = 0 by omega]
              exact set_get (by rw [HCc.out]; rfl)
            · rw [List.drop_eq_nil_of_le (by rw [HN.out]; omega)]
              rfl
        · rename_i hm0
          have hm1 := HM.out
          go_roundg (n - (j + 1))
          case measure => omega
          case rel =>
            refine ⟨Spine.setOther HC0.out (by intro U q h; cases h) _ _ _ HSP.out, j + 1, ⟨b2, off2 + 4, none⟩, _, rfl, by omega, HB.out.set lo _, ?_, ?_, HCU.out, gset HG.out lo _⟩
            · rw [show n - (j + 1) = m by omega]
              exact set_get (by rw [HCc.out]; rfl)
            · have h5 := HR1.out.setOther HC0.out HNM.out (.slice (some ⟨b2, off2 + 4, none⟩) m m)
              simpa using h5
      · have t0 : (e.kind == 0) = false := by simpa using hk0
        have HF := Lib.hid (show cutF es = es.drop j by rw [HCT.out, HD.out]; simp [cutF, hk0])
        have HFL := Lib.hid (show (es.drop j).length = n - j by rw [List.length_drop, HN.out])
        have HM := Lib.hid hm
        clear hk0 hm
        go_wp2_with fail
        go_end0
        refine ⟨rfl, ⟨b2, off2, none⟩, cs1, HB.out, ?_, ?_, HSP.out, HG.out⟩
        · rw [HF.out, HFL.out, HLO.out]
          exact HCc.out
        · rw [HF.out]
          exact HR.out
    · have HF := Lib.hid (show cutF es = es.drop j by
        rw [HCT.out, List.drop_eq_nil_of_le (by rw [HN.out]; omega)]
        rfl)
      have HFL := Lib.hid (show (es.drop j).length = n - j by rw [List.length_drop, HN.out])
      have hz0 : n - j = 0 := by omega
      rw [hz0] at c0
      have HZ0 := Lib.hid hz0
      clear hz0
      go_wp2_with fail
      go_end0
      refine ⟨rfl, x1', cs1, HB.out, ?_, ?_, HSP.out, HG.out⟩
      · rw [HF.out, HFL.out, HLO.out]
        exact HCc.out
      · rw [HF.out]
        exact HR.out
set_option maxRecDepth 100000 in
theorem zremove2_any (w : World) (hb X L lb : Nat) (hL : isLeaf L) (q T b tl n : Nat) (cs : Array Value) (es : List El) (x : Addr) (c1 : w.cell? ⟨hb, 1, none⟩ = some (.iface T (.pointer (some ⟨b, 0, none⟩)))) (hS : Spine w X L lb q T b) (hB : Blk w lb tl cs) (hc : cs[leafOff L]? = some (.slice (some x) n n)) (hlen : es.length = n) (hn : n ≤ 65536) (hco : Coms es) (hr : Rd w w.heap.size (some x) (cellsF es)) :
    Calls Try.prog 18 #[.pointer (some ⟨hb, 0, none⟩)] w fun e w' => e = .returned (.tuple #[]) ∧ ∃ (x' : Addr) (cs' : Array Value), Blk w' lb tl cs' ∧ cs'[leafOff L]? = some (.slice (some x') (cutF es).length (cutF es).length) ∧ Rd w' w'.heap.size (some x') (cellsF (cutF es)) ∧ Spine w' X L lb q T b ∧ w.grownBy w' (some lb) := by
  have K := Lib.hid (remove2_any w X L lb hL q T b tl n cs es x hS hB hc hlen hn hco hr)
  clear hS hB hc hlen hco hr hL
  go_enter Try.func18, Try.ntmps18
  go_wp2_with fail
  refine K.out.mono ?_
  rintro e w1 ⟨rfl, h⟩
  have H := Lib.hid h
  clear h K
  go_wp2_with fail
  go_end0
  exact ⟨rfl, H.out⟩

theorem cut_suffix (es : List El) : cutF es = es.drop (es.length - (cutF es).length) := by
  obtain ⟨t, ht⟩ := List.dropWhile_suffix (fun e : El => e.kind == 0) (l := es)
  have hl : es.length - (cutF es).length = t.length := by
    have := congrArg List.length ht
    rw [List.length_append] at this
    unfold cutF
    omega
  rw [hl]
  conv => rhs; rw [← ht]
  simp [cutF]
theorem cut_twice (es : List El) : cutF (cutF es) = cutF es := by
  unfold cutF
  induction es with
  | nil => rfl
  | cons e es ih =>
    cases h : (e.kind == 0)
    · rw [List.dropWhile_cons_of_neg (by simp [h])]
      rw [List.dropWhile_cons_of_neg (by simp [h])]
    · rw [List.dropWhile_cons_of_pos (by simp [h])]
      exact ih
theorem cut_head (es : List El) (e : El) (h : (cutF es)[0]? = some e) : (e.kind == 0) = false := by
  unfold cutF at h
  induction es with
  | nil => simp at h
  | cons x es ih =>
    cases hx : (x.kind == 0)
    · rw [List.dropWhile_cons_of_neg (by simp [hx])] at h
      simp at h
      subst h
      exact hx
    · rw [List.dropWhile_cons_of_pos (by simp [hx])] at h
      exact ih h

set_option maxRecDepth 100000 in
set_option maxHeartbeats 6400000 in
theorem sufLaw (k m lk : Int) (a b : Option Addr) (n cn p cp : Nat) (ks bs : List Int) (w : World) (ha : IsInts w a n cn ks) (hb : IsInts w b p cp bs) :
    Calls Try.prog 9 #[.int .i64 k, .int .i64 m, .int .i64 lk, .slice a n cn, .slice b p cp] w fun e w' => e = .returned (.bool true) ∧ Below w.heap.size w w' := by
  have n63 : n ≤ 9223372036854775807 := by have := ha.2.1; have := ha.2.2.1; unfold maxLen at this; omega
  have p63 : p ≤ 9223372036854775807 := by have := hb.2.1; have := hb.2.2.1; unfold maxLen at this; omega
  have HA := Lib.hid ha
  have HBB := Lib.hid hb
  clear ha hb
  by_cases h0 : n ≤ 65536 ∧ p ≤ 65536 ∧ n * 8 + p * 8 ≤ 1048576 ∧ 0 ≤ k ∧ k ≤ 5 ∧ 0 ≤ m ∧ m ≤ 4096 ∧ 0 ≤ lk ∧ lk ≤ 4
  rotate_left
  · go_enter Try.func9, Try.ntmps9
    go_wp2_with (first | (go_at_call 20; go_in) | fail)
    all_goals first | (go_ret; exact ⟨rfl, Below.refl _ _⟩) | (exfalso; omega)
  obtain ⟨hn, hp, hs, k0, k1, m0, m1, l0, l1⟩ := h0
  have d1 : decide ((1048576 : Int) < n) = false := by simp; omega
  have d2 : decide ((1048576 : Int) < p) = false := by simp; omega
  have d3 : decide ((1048576 : Int) < n + p) = false := by simp; omega
  have d4 : decide ((65536 : Int) < n) = false := by simp; omega
  have d5 : decide ((65536 : Int) < p) = false := by simp; omega
  have d6 : decide ((1048576 : Int) < n * 8 + p * 8) = false := by simp; omega
  have d7 : decide (k < 0) = false := by simp; omega
  have d8 : decide (5 < k) = false := by simp; omega
  have d9 : decide (m < 0) = false := by simp; omega
  have d10 : decide (4096 < m) = false := by simp; omega
  have d11 : decide (lk < 0) = false := by simp; omega
  have d12 : decide (4 < lk) = false := by simp; omega
  go_enter Try.func9, Try.ntmps9
  go_wp2_with (first | (go_at_call 20; go_in) | fail)
  refine (make_any _ _ _ _ _ _ _ _ _ HA.out HBB.out hn hp).mono ?_
  rintro e w1 ⟨rfl, hO, b1⟩
  have HE := Lib.hid (mk_coms ks bs n)
  have HEL := Lib.hid (mkEls_len ks bs n)
  have O1 := Lib.hid hO
  have G1 := Lib.hid b1
  have z1 := b1.size
  clear hO b1
  go_wp2_with fail
  refine (make_any _ _ _ _ _ _ _ _ _ (HA.out.below G1.out) (HBB.out.below G1.out) hn hp).mono ?_
  rintro e w2 ⟨rfl, hO, b2⟩
  have L2 := Lib.hid hO
  have O2 := Lib.hid (O1.out.under b2)
  have G2 := Lib.hid (bel_old G1.out b2 z1).1
  have z2 := b2.size
  have j1 := O1.out.lt
  have j2 := L2.out.lt
  clear hO b2 O1 G1 HA HBB
  generalize hes : mkEls ks bs n = es at *
  clear hes
  generalize hg0 : w.heap.size = g0 at *
  have HG0 := Lib.hid hg0
  clear hg0
  generalize w1.heap.size = g1 at *
  go_wp2_with fail
  refine (chain_any _ _ _ _ k0 k1 m0 m1 l0 l1 _ _ _ _ none (clone_nil _)).mono ?_
  rintro e w4 ⟨hb, bb, lb, q, rfl, T, b', tl, csh, csb, csl, vh, vb, H, B, L, e1, hS, e2, e3, e4, hcp1, hcp2, y1, y2, y3, n1, n2, n3, b4⟩
  have n6 : g0 ≠ lb := by omega
  have D4 := L2.out.under b4
  have K := Lib.hid (zremove2_any w4 hb hb (leafT lk) lb (leaf_is lk) q T b' tl n csl es ⟨g1, 0, none⟩ (by rw [H.cell]; exact e1) hS L e4 HEL.out hn HE.out (D4.rd _ D4.lt))
  have H4 := Lib.hid H
  have O4 := Lib.hid (O2.out.under b4)
  have G4 := Lib.hid (bel_old G2.out b4 (by omega))
  have E1 := Lib.hid e1
  clear H B L e1 hS e2 e3 e4 hcp1 hcp2 b4 O2 L2 G2 D4 y1 y2
  go_wp2_with fail
  refine K.out.mono ?_
  rintro e w5 ⟨rfl, x', cs', hL5, e5, hr5, hs5, hg5⟩
  have H5 := Lib.hid (H4.out.grown hg5 (by intro e; injection e with e; omega))
  have O5 := Lib.hid (O4.out.grown hg5 (by intro e; injection e with e; omega))
  have G5 := Lib.hid (G4.out.1.grown hg5 G4.out.2 (by intro x hx; injection hx with hx; omega))
  have z5 := Nat.le_trans G4.out.2 hg5.size
  have c5 : w5.cell? ⟨lb, leafOff (leafT lk), none⟩ = some (.slice (some x') (cutF es).length (cutF es).length) := by rw [hL5.cell]; exact e5
  have L5 := Lib.hid hL5
  have E5 := Lib.hid e5
  have R5 := Lib.hid hr5
  have S5 := Lib.hid hs5
  clear hL5 e5 hr5 hg5 hs5 H4 O4 G4 K
  have HCS := Lib.hid (cut_suffix es)
  have HCT := Lib.hid (cut_twice es)
  have HCH := Lib.hid (cut_head es)
  have HCC := Lib.hid (cut_coms HE.out)
  have hcl : (cutF es).length ≤ n := by have := (List.dropWhile_sublist (fun e : El => e.kind == 0) (l := es)).length_le; rw [HEL.out] at this; exact this
  rw [HEL.out] at HCS
  generalize hct : cutF es = ct at *
  clear hct
  obtain ⟨c, hcc⟩ : ∃ c, ct.length = c := ⟨_, rfl⟩
  have HCL := Lib.hid hcc
  rw [hcc] at c5 hcl HCS E5
  clear hcc
  obtain ⟨d, rfl⟩ : ∃ d, n = d + c := ⟨n - c, by omega⟩
  go_wp2_with fail
  refine (clone_some _ _ _ _ ct HCL.out (by omega) HCC.out R5.out).mono ?_
  rintro e w6 ⟨rfl, hB6, b6⟩
  have B6 := Lib.hid hB6
  have O6 := Lib.hid (O5.out.under b6)
  have L6 := Lib.hid (L5.out.under b6)
  have H6 := Lib.hid (H5.out.under b6)
  have S6 := Lib.hid (Spine.below b6 _ _ _ S5.out)
  have R6 := Lib.hid ((R5.out.below b6).mono b6.size)
  have G6 := Lib.hid (bel_old G5.out b6 z5)
  have l6 := L5.out.lt
  have l7 := B6.out.lt
  clear hB6 b6 O5 L5 H5 S5 R5 G5 c5
  generalize w5.heap.size = g6 at *
  have RO := Lib.hid (show Rd w6 w6.heap.size (some ⟨g0, d * 4, none⟩) (cellsF ct) by
    have h := (O6.out.rd w6.heap.size O6.out.lt).drop (d * 4)
    rw [List.toList_toArray, cellsF_drop] at h
    have h2 := HCS.out
    rw [Nat.add_sub_cancel] at h2
    rw [h2]
    simpa using h)
  by_cases hc0 : c = 0
  · subst hc0
    have HNIL := Lib.hid (show ct = [] from List.eq_nil_of_length_eq_zero HCL.out)
    go_wp2_with fail
    refine (same_any _ _ _ _ _ _ ct HCL.out (by omega) (B6.out.rd _ B6.out.lt) (.inl (by rw [HNIL.out]; rfl))).mono ?_
    rintro e w7 ⟨rfl, m7, rfl⟩
    have K2 := Lib.hid (zremove2_any (w6.drewN m7) hb hb (leafT lk) lb (leaf_is lk) q T b' tl 0 cs' ct x' (by rw [(H6.out.drewN m7).cell]; exact E1.out) (Spine.below (below_drewN (Below.refl _ _) m7) _ _ _ S6.out) (L6.out.drewN m7) E5.out HCL.out (by omega) HCC.out R6.out)
    rw [HCT.out] at K2
    go_wp2_with fail
    refine K2.out.mono ?_
    rintro e w8 ⟨rfl, x8, cs8, hL8, e8, hr8, _, hg8⟩
    have B8 := Lib.hid ((B6.out.drewN m7).grown hg8 (by intro e; injection e with e; omega))
    have c8 : w8.cell? ⟨lb, leafOff (leafT lk), none⟩ = some (.slice (some x8) 0 0) := by rw [hL8.cell, e8, HCL.out]
    have R8 := Lib.hid hr8
    have G8 := Lib.hid ((below_drewN G6.out.1 m7).grown hg8 G6.out.2 (by intro x hx; injection hx with hx; omega))
    clear hL8 e8 hr8 hg8 K2
    go_wp2_with fail
    refine (same_any _ _ _ _ _ _ ct HCL.out (by omega) R8.out (B8.out.rd _ B8.out.lt)).mono ?_
    rintro e w9 ⟨rfl, m9, rfl⟩
    go_wp2_with fail
    go_ret
    refine ⟨rfl, ?_⟩
    rw [HG0.out]
    repeat' (first | exact G8.out | refine below_drewN ?_ _)
  · have hcp : 0 < c := by omega
    obtain ⟨e0, he0⟩ : ∃ e, ct[0]? = some e := ⟨ct[0]'(by rw [HCL.out]; omega), by simp⟩
    have hk0 := HCH.out e0 he0
    obtain ⟨_, x1, _, _⟩ := blk_at B6.out he0
    simp only [Nat.zero_mul, Nat.zero_add] at x1
    clear he0
    go_wp2_with fail
    refine (same_any _ _ _ _ _ _ ct HCL.out (by omega) (B6.out.rd _ B6.out.lt) RO.out).mono ?_
    rintro e w7 ⟨rfl, m7, rfl⟩
    have K2 := Lib.hid (zremove2_any (w6.drewN m7) hb hb (leafT lk) lb (leaf_is lk) q T b' tl c cs' ct x' (by rw [(H6.out.drewN m7).cell]; exact E1.out) (Spine.below (below_drewN (Below.refl _ _) m7) _ _ _ S6.out) (L6.out.drewN m7) E5.out HCL.out (by omega) HCC.out R6.out)
    rw [HCT.out] at K2
    go_wp2_with fail
    refine K2.out.mono ?_
    rintro e w8 ⟨rfl, x8, cs8, hL8, e8, hr8, _, hg8⟩
    have B8 := Lib.hid ((B6.out.drewN m7).grown hg8 (by intro e; injection e with e; omega))
    have c8 : w8.cell? ⟨lb, leafOff (leafT lk), none⟩ = some (.slice (some x8) c c) := by rw [hL8.cell, e8, HCL.out]
    have R8 := Lib.hid hr8
    have G8 := Lib.hid ((below_drewN G6.out.1 m7).grown hg8 G6.out.2 (by intro x hx; injection hx with hx; omega))
    clear hL8 e8 hr8 hg8 K2
    go_wp2_with fail
    refine (same_any _ _ _ _ _ _ ct HCL.out (by omega) R8.out (B8.out.rd _ B8.out.lt)).mono ?_
    rintro e w9 ⟨rfl, m9, rfl⟩
    go_wp2_with fail
    go_ret
    refine ⟨rfl, ?_⟩
    rw [HG0.out]
    repeat' (first | exact G8.out | refine below_drewN ?_ _)
end Go.Proofs.Ytginajepkfndoaa
