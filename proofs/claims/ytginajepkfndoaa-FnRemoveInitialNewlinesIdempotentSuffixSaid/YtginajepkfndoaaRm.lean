/- The walk of FnRemoveInitialNewlinesDropsLeadingLineEnds. -/
import Derived.Test.YtginajepkfndoaaCl
namespace Go.Proofs.Ytginajepkfndoaa
open Go.RowKit
set_option linter.unusedVariables false

theorem mk_coms (ks bs : List Int) (n : Nat) : Coms (mkEls ks bs n) := by
  intro e he
  simp only [mkEls, List.mem_map] at he
  obtain ⟨i, _, rfl⟩ := he
  rfl

theorem copies_some (w : World) (g n : Nat) (es : List El) (hlen : es.length = n) (hn : n ≤ 65536) (hco : Coms es) (hB : Blk w g 61 (cellsF es).toArray) : Copies w (.slice (some ⟨g, 0, none⟩) n n) (some (n, (cellsF es).toArray)) := by
  intro W hW
  refine (clone_some W _ n n es hlen hn hco ((hB.under hW).rd _ (Nat.lt_of_lt_of_le hB.lt hW.size))).mono ?_
  rintro e w1 ⟨rfl, h1, h2⟩
  exact ⟨_, _, _, rfl, ⟨_, rfl, h1⟩, h2⟩

set_option maxRecDepth 100000 in
theorem zremove_any (w : World) (hb X L lb : Nat) (hL : isLeaf L) (q T b tl n : Nat) (cs : Array Value) (es : List El) (A : Option Addr) (c1 : w.cell? ⟨hb, 1, none⟩ = some (.iface T (.pointer (some ⟨b, 0, none⟩)))) (hS : Spine w X L lb q T b) (hB : Blk w lb tl cs) (hc : cs[leafOff L]? = some (.slice A n n)) (hlen : es.length = n) (hn : n ≤ 65536) (hco : Coms es) (hr : Rd w w.heap.size A (cellsF es)) :
    Calls Try.prog 18 #[.pointer (some ⟨hb, 0, none⟩)] w fun e w' => e = .returned (.tuple #[]) ∧ ∃ (A' : Option Addr) (cs' : Array Value), Blk w' lb tl cs' ∧ cs'[leafOff L]? = some (.slice A' (cutF es).length (cutF es).length) ∧ Rd w' w'.heap.size A' (cellsF (cutF es)) ∧ w.grownBy w' (some lb) := by
  have K := Lib.hid (remove_any w X L lb hL q T b tl n cs es A hS hB hc hlen hn hco hr)
  clear hS hB hc hlen hco hr hL
  go_enter Try.func18, Try.ntmps18
  go_wp2_with fail
  refine K.out.mono ?_
  rintro e w1 ⟨rfl, h⟩
  have H := Lib.hid h
  clear h K
  go_wp2_with fail
  go_end0
  exact ⟨rfl, H.out⟩

theorem IsInts.below {w w' : World} {a : Option Addr} {len cap : Nat} {zs : List Int} (h : IsInts w a len cap zs) (hb : Below w.heap.size w w') : IsInts w' a len cap zs :=
  ⟨h.1, h.2.1, h.2.2.1, h.2.2.2.1, h.2.2.2.2.1, (h.2.2.2.2.2.below hb).mono hb.size⟩

/-- Behind k elements: has one been kept? -/
def stF (es : List El) (k : Nat) : Bool := !(es.take k).all (fun e => e.kind == 0)

theorem dropWhile_snoc (p : El → Bool) (l : List El) (e : El) : (l ++ [e]).dropWhile p = if (!l.all p || !p e) = true then l.dropWhile p ++ [e] else [] := by
  induction l with
  | nil => cases h : p e <;> simp [h]
  | cons a l ih =>
    cases h : p a
    · simp [h]
    · simp [h, ih]
theorem dropWhile_all (p : El → Bool) (l : List El) (h : l.all p = true) : l.dropWhile p = [] := by
  induction l with
  | nil => rfl
  | cons a l ih =>
    simp only [List.all_cons, Bool.and_eq_true] at h
    simp [h.1, ih h.2]
theorem cut_keep (es : List El) (k : Nat) (e : El) (he : es[k]? = some e) (h : (stF es k || (e.kind != 0)) = true) : cutF (es.take (k + 1)) = cutF (es.take k) ++ [e] ∧ stF es (k + 1) = true := by
  have ht : es.take (k + 1) = es.take k ++ [e] := by rw [List.take_add_one, he]; rfl
  constructor
  · unfold cutF
    rw [ht, dropWhile_snoc, if_pos]
    unfold stF at h
    simpa [bne] using h
  · unfold stF at *
    rw [ht]
    simp only [List.all_append, List.all_cons, List.all_nil, Bool.and_true]
    revert h
    cases (es.take k).all (fun e => e.kind == 0) <;> cases h2 : (e.kind == 0) <;> simp [bne, h2]
theorem cut_skip (es : List El) (k : Nat) (e : El) (he : es[k]? = some e) (h1 : stF es k = false) (h2 : (e.kind != 0) = false) : cutF (es.take (k + 1)) = cutF (es.take k) ∧ stF es (k + 1) = false := by
  have ht : es.take (k + 1) = es.take k ++ [e] := by rw [List.take_add_one, he]; rfl
  have h3 : (es.take k).all (fun e => e.kind == 0) = true := by simpa [stF] using h1
  have h4 : (e.kind == 0) = true := by simpa [bne] using h2
  constructor
  · unfold cutF
    rw [dropWhile_all _ _ h3, ht, dropWhile_all]
    rw [List.all_append, h3]
    simpa using h4
  · unfold stF
    rw [ht, List.all_append, h3]
    simpa using h4
theorem cut_le (es : List El) (k : Nat) : (cutF (es.take k)).length ≤ k := Nat.le_trans (List.dropWhile_sublist _).length_le (by simp; omega)
theorem cut_coms {es : List El} (h : Coms es) : Coms (cutF es) := fun e he => h e ((List.dropWhile_sublist _).mem he)
theorem own_rd {w : World} {base e size g n c B : Nat} {xs : List Value} (h : w.ownsRow base e size (.slice (some ⟨g, 0, none⟩) n c) n xs) (hB : w.heap.size ≤ B) : Rd w B (some ⟨g, 0, none⟩) xs := by
  rcases Nat.eq_zero_or_pos xs.length with h0 | h0
  · exact .inl (List.eq_nil_of_length_eq_zero h0)
  · have hc := h.cells (g := g) rfl
    refine .inr ⟨g, 0, rfl, ?_, fun i u hu => ?_⟩
    · have := (h.lt g rfl).2
      omega
    · have := hc i u hu
      rw [Go.WideShapes.add_plain] at this
      exact this
theorem copy_ne {w : World} {g lb tl lo n : Nat} {es : List El} {csl : Array Value} {x : Addr} (hco : Coms es) (hg : Blk w g 61 (cellsF es).toArray) (hl : Blk w lb tl csl) (hc : csl[lo]? = some (.slice (some x) n n)) : g ≠ lb := by
  intro e
  subst e
  unfold Blk at hg hl
  rw [hg] at hl
  injection hl with hl
  injection hl with h1 _
  subst h1
  have hm : Value.slice (some x) n n ∈ cellsF es := List.mem_of_getElem? (by simpa using hc)
  simp only [cellsF, List.mem_flatMap] at hm
  obtain ⟨e, he, hu⟩ := hm
  simp only [El.cells, List.mem_cons, List.not_mem_nil, or_false] at hu
  rcases hu with hu | hu | hu | hu
  · rw [hco e he] at hu
    cases hu
  all_goals cases hu

/-- The four cells of element k of a block of fodder. -/
theorem blk_at {w : World} {g : Nat} {es : List El} (h : Blk w g 61 (cellsF es).toArray) {k : Nat} {e : El} (he : es[k]? = some e) :
    w.cell? ⟨g, k * 4, none⟩ = some e.com ∧ w.cell? ⟨g, k * 4 + 1, none⟩ = some (.int .i64 e.kind) ∧ w.cell? ⟨g, k * 4 + 2, none⟩ = some (.int .i64 e.blanks) ∧ w.cell? ⟨g, k * 4 + 3, none⟩ = some (.int .i64 e.indent) := by
  refine ⟨?_, ?_, ?_, ?_⟩ <;> rw [h.cell, List.getElem?_toArray]
  · exact cellsF_com es k e he
  · exact cellsF_kind es k e he
  · exact cellsF_blanks es k e he
  · exact cellsF_indent es k e he

set_option maxRecDepth 100000 in
set_option maxHeartbeats 6400000 in
theorem dropLaw (k m lk : Int) (a b : Option Addr) (n cn p cp : Nat) (ks bs : List Int) (w : World) (ha : IsInts w a n cn ks) (hb : IsInts w b p cp bs) :
    Calls Try.prog 8 #[.int .i64 k, .int .i64 m, .int .i64 lk, .slice a n cn, .slice b p cp] w fun e w' => e = .returned (.bool true) ∧ Below w.heap.size w w' := by
  have n63 : n ≤ 9223372036854775807 := by have := ha.2.1; have := ha.2.2.1; unfold maxLen at this; omega
  have p63 : p ≤ 9223372036854775807 := by have := hb.2.1; have := hb.2.2.1; unfold maxLen at this; omega
  have HA := Lib.hid ha
  have HBB := Lib.hid hb
  clear ha hb
  by_cases h0 : n ≤ 65536 ∧ p ≤ 65536 ∧ n * 8 + p * 8 ≤ 1048576 ∧ 0 ≤ k ∧ k ≤ 5 ∧ 0 ≤ m ∧ m ≤ 4096 ∧ 0 ≤ lk ∧ lk ≤ 4
  rotate_left
  · go_enter Try.func8, Try.ntmps8
    go_wp2_with (first | (go_at_call 16; go_in) | fail)
    all_goals first | (go_ret; exact ⟨rfl, Below.refl _ _⟩) | (exfalso; omega)
  obtain ⟨hn, hp, hs, k0, k1, m0, m1, l0, l1⟩ := h0
  have d1 : decide ((1048576 : Int) < n) = false := by simp; omega
  have d2 : decide ((1048576 : Int) < p) = false := by simp; omega
  have d3 : decide ((1048576 : Int) < n + p) = false := by simp; omega
  have d4 : decide ((65536 : Int) < n) = false := by simp; omega
  have d5 : decide ((65536 : Int) < p) = false := by simp; omega
  have d6 : decide ((1048576 : Int) < n * 8 + p * 8) = false := by simp; omega
  have d7 : decide (k < 0) = false := by simp; omega
  have d8 : decide (5 < k) = false := by simp; omega
  have d9 : decide (m < 0) = false := by simp; omega
  have d10 : decide (4096 < m) = false := by simp; omega
  have d11 : decide (lk < 0) = false := by simp; omega
  have d12 : decide (4 < lk) = false := by simp; omega
  go_enter Try.func8, Try.ntmps8
  go_wp2_with (first | (go_at_call 16; go_in) | fail)
  refine (make_any _ _ _ _ _ _ _ _ _ HA.out HBB.out hn hp).mono ?_
  rintro e w1 ⟨rfl, hO, b1⟩
  have HE := Lib.hid (mk_coms ks bs n)
  have HEL := Lib.hid (mkEls_len ks bs n)
  have O1 := Lib.hid hO
  have G1 := Lib.hid b1
  have z1 := b1.size
  clear hO b1
  go_wp2_with fail
  refine (make_any _ _ _ _ _ _ _ _ _ (HA.out.below G1.out) (HBB.out.below G1.out) hn hp).mono ?_
  rintro e w2 ⟨rfl, hO, b2⟩
  have L2 := Lib.hid hO
  have O2 := Lib.hid (O1.out.under b2)
  have G2 := Lib.hid (bel_old G1.out b2 z1).1
  have z2 := b2.size
  have j1 := O1.out.lt
  clear hO b2 O1 G1
  go_wp2_with fail
  refine (make_any _ _ _ _ _ _ _ _ _ (HA.out.below G2.out) (HBB.out.below G2.out) hn hp).mono ?_
  rintro e w3 ⟨rfl, hO, b3⟩
  have S3 := Lib.hid hO
  have L3 := Lib.hid (L2.out.under b3)
  have O3 := Lib.hid (O2.out.under b3)
  have G3 := Lib.hid (bel_old G2.out b3 (by omega)).1
  have z3 := b3.size
  have j2 := L2.out.lt
  clear hO b3 O2 L2 G2 HA HBB
  generalize hes : mkEls ks bs n = es at *
  clear hes
  generalize hg0 : w.heap.size = g0 at *
  have HG0 := Lib.hid hg0
  clear hg0
  generalize w1.heap.size = g1 at *
  generalize w2.heap.size = g2 at *
  go_wp2_with fail
  refine (chain_any _ _ _ _ k0 k1 m0 m1 l0 l1 _ _ _ _ _ (copies_some _ _ _ es HEL.out hn HE.out S3.out)).mono ?_
  rintro e w4 ⟨hb, bb, lb, q, rfl, T, b', tl, csh, csb, csl, vh, vb, H, B, L, e1, hS, e2, e3, e4, hcp1, hcp2, y1, y2, y3, n1, n2, n3, b4⟩
  obtain ⟨gh, rfl, hgh⟩ := hcp1
  obtain ⟨gb, rfl, hgb⟩ := hcp2
  have n4 := copy_ne HE.out hgh L e4
  have n5 := copy_ne HE.out hgb L e4
  have n6 : g0 ≠ lb := by omega
  have D4 := L3.out.under b4
  have K := Lib.hid (zremove_any w4 hb hb (leafT lk) lb (leaf_is lk) q T b' tl n csl es (some ⟨g1, 0, none⟩) (by rw [H.cell]; exact e1) hS L e4 HEL.out hn HE.out (D4.rd _ D4.lt))
  have H4 := Lib.hid H
  have B4 := Lib.hid B
  have P4 := Lib.hid hgh
  have Q4 := Lib.hid hgb
  have O4 := Lib.hid (O3.out.under b4)
  have G4 := Lib.hid (bel_old G3.out b4 (by omega))
  have E2 := Lib.hid e2
  have E3 := Lib.hid e3
  clear H B L e1 hS e2 e3 e4 hgh hgb b4 O3 L3 S3 G3 D4 y1 y2
  go_wp2_with fail
  refine K.out.mono ?_
  rintro e w5 ⟨rfl, A', cs', hL5, e5, hr5, hg5⟩
  have H5 := Lib.hid (H4.out.grown hg5 (by intro e; injection e with e; omega))
  have B5 := Lib.hid (B4.out.grown hg5 (by intro e; injection e with e; omega))
  have P5 := Lib.hid (P4.out.grown hg5 (by intro e; injection e with e; omega))
  have Q5 := Lib.hid (Q4.out.grown hg5 (by intro e; injection e with e; omega))
  have O5 := Lib.hid (O4.out.grown hg5 (by intro e; injection e with e; omega))
  have G5 := Lib.hid (G4.out.1.grown hg5 G4.out.2 (by intro x hx; injection hx with hx; omega))
  have z5 := Nat.le_trans G4.out.2 hg5.size
  have L5 := Lib.hid hL5
  have E5 := Lib.hid e5
  have R5 := Lib.hid hr5
  clear hL5 e5 hr5 hg5 H4 B4 P4 Q4 O4 G4 K
  obtain ⟨i0, hi, hz0, hz1, hz2⟩ := info_parts Try.inf61
  have hmk : ∀ W, (Instr.makeSlice 31 (.int .i64 0) (.int .i64 n)).run Try.prog W = .ok (.slice (some ⟨W.heap.size, 0, none⟩) 0 n) (W.alloc (.cells (madeCells (Value.agg #[.slice none 0 0, .int .i64 0, .int .i64 0, .int .i64 0]).cells (n * i0.size)) 61)) := fun W => run_make_n (P := Try.prog) 31 61 i0 _ Try.underlying31 hi hz0 .i64 .i64 0 n (Nat.zero_le _) (by rw [hz2]; omega) (by omega) W
  rw [hz1] at hmk
  generalize hZ : madeCells (Value.agg #[.slice none 0 0, .int .i64 0, .int .i64 0, .int .i64 0]).cells (n * 4) = Z at hmk
  have HZ := Lib.hid (show Z.size = n * 4 by rw [← hZ]; simp [size_madeCells])
  have HI := Lib.hid hi
  have HI1 := Lib.hid hz1
  clear hZ hi hz0 hz1 hz2
  go_wp2_with fail
  go_loopw [15, 16, 17] (fun v st i wr => ∃ k : Nat, k ≤ n ∧ v = .slice (some ⟨w5.heap.size, 0, none⟩) (cutF (es.take k)).length n ∧ st = .bool (stF es k) ∧ i = .int .i64 k ∧ Hid (wr.ownsRow w5.heap.size 61 4 (.slice (some ⟨w5.heap.size, 0, none⟩) (cutF (es.take k)).length n) (cutF (es.take k)).length (cellsF (cutF (es.take k)))) ∧ Below w5.heap.size w5 wr) (fun _ _ i _ => n - (intOf i).toNat)
  case atStart => exact ⟨0, Nat.zero_le _, rfl, rfl, rfl, Lib.hid (own_made HZ.out (by omega)), (Below.refl _ _).alloc (Nat.le_refl _) _⟩
  case round =>
    obtain ⟨k, hk, rfl, rfl, rfl, hown, hbel⟩ := hrel
    have hcl := cut_le es k
    by_cases hlt : k < n
    · obtain ⟨e, he⟩ : ∃ e, es[k]? = some e := ⟨es[k]'(by rw [HEL.out]; omega), by simp⟩
      obtain ⟨x0, x1, x2, x3⟩ := blk_at (O5.out.under hbel) he
      have hcm := HE.out e (List.mem_of_getElem? he)
      obtain ⟨ec, ek, eb, ei⟩ := e
      simp only at hcm x0 x1 x2 x3
      subst hcm
      have HEE := Lib.hid he
      clear he
      by_cases hkeep : (stF es k || (ek != 0)) = true
      · have HCK := Lib.hid (cut_keep es k _ HEE.out hkeep)
        cases hst : stF es k
        · have hk2 : (ek != 0) = true := by rw [hst] at hkeep; simpa using hkeep
          clear hkeep
          go_wp2_with (at_builtin; refine wpList_append_fits _ rfl (.tmp 100) (.tmp 105) 31 rfl w5.heap.size 61 i0 4 Try.underlying31 HI.out HI1.out w5.heap.size (cutF (es.take k)).length n (cellsF (cutF (es.take k))) rfl (hown.out.alloc _) ⟨wr.heap.size, 0, none⟩ 1 1 (El.cells ⟨.slice none 0 0, ek, eb, ei⟩) rfl rfl (new_cells _ _ _) (el_one rfl) (by omega) ?_)
          intro w6 hown1 hgrow1
          have HO := Lib.hid hown1
          have HB := Lib.hid ((hbel.alloc hbel.size (.cells #[.slice none 0 0, .int .i64 ek, .int .i64 eb, .int .i64 ei] 61)).grown hgrow1 (by simp; exact Nat.le_succ_of_le hbel.size) (by intro q hq; injection hq with hq; omega))
          clear hown1 hgrow1 hown x0 x1 x2 x3
          go_wp2_with fail
          go_roundw
          case rel =>
            refine ⟨k + 1, by omega, ?_, ?_, by go_num, ?_, HB.out⟩
            · rw [HCK.out.1, List.length_append]
              rfl
            · rw [HCK.out.2]
            · rw [HCK.out.1, cellsF_append, List.length_append]
              exact HO
          case measure => simp [intOf]; omega
        · clear hkeep
          go_wp2_with (at_builtin; refine wpList_append_fits _ rfl (.tmp 100) (.tmp 105) 31 rfl w5.heap.size 61 i0 4 Try.underlying31 HI.out HI1.out w5.heap.size (cutF (es.take k)).length n (cellsF (cutF (es.take k))) rfl (hown.out.alloc _) ⟨wr.heap.size, 0, none⟩ 1 1 (El.cells ⟨.slice none 0 0, ek, eb, ei⟩) rfl rfl (new_cells _ _ _) (el_one rfl) (by omega) ?_)
          intro w6 hown1 hgrow1
          have HO := Lib.hid hown1
          have HB := Lib.hid ((hbel.alloc hbel.size (.cells #[.slice none 0 0, .int .i64 ek, .int .i64 eb, .int .i64 ei] 61)).grown hgrow1 (by simp; exact Nat.le_succ_of_le hbel.size) (by intro q hq; injection hq with hq; omega))
          clear hown1 hgrow1 hown x0 x1 x2 x3
          go_wp2_with fail
          go_roundw
          case rel =>
            refine ⟨k + 1, by omega, ?_, ?_, by go_num, ?_, HB.out⟩
            · rw [HCK.out.1, List.length_append]
              rfl
            · rw [HCK.out.2]
            · rw [HCK.out.1, cellsF_append, List.length_append]
              exact HO
          case measure => simp [intOf]; omega
      · have hst : stF es k = false := by cases h : stF es k <;> simp_all
        have hk2 : (ek != 0) = false := by cases h : (ek != 0) <;> simp_all
        have HCS := Lib.hid (cut_skip es k _ HEE.out hst hk2)
        clear hkeep
        rw [hst]
        go_wp2_with fail
        go_roundw
        case rel => exact ⟨k + 1, by omega, by rw [HCS.out.1], by rw [HCS.out.2], by go_num, by rw [HCS.out.1]; exact hown, hbel⟩
        case measure => simp [intOf]; omega
    · have hkn : k = n := by omega
      subst hkn
      have HT := Lib.hid (show es.take k = es from List.take_of_length_le (by rw [HEL.out]; omega))
      rw [HT.out] at hown hcl ⊢
      have HML := Lib.hid (show (cutF es).length ≤ 65536 by omega)
      have Hr := Lib.hid (H5.out.under hbel)
      have Br := Lib.hid (B5.out.under hbel)
      have Lr := Lib.hid (L5.out.under hbel)
      have c0 : wr.cell? ⟨lb, leafOff (leafT lk), none⟩ = some (.slice A' (cutF es).length (cutF es).length) := by rw [Lr.out.cell]; exact E5.out
      have c1 : wr.cell? ⟨hb, 3, none⟩ = some (.slice (some ⟨gh, 0, none⟩) k k) := by rw [Hr.out.cell]; exact E2.out
      have c2 : wr.cell? ⟨bb, 3, none⟩ = some (.slice (some ⟨gb, 0, none⟩) k k) := by rw [Br.out.cell]; exact E3.out
      have Or := Lib.hid (O5.out.under hbel)
      have Pr := Lib.hid (P5.out.under hbel)
      have Qr := Lib.hid (Q5.out.under hbel)
      have Gr := Lib.hid (bel_old G5.out hbel z5).1
      go_wp2_with fail
      refine (same_any _ _ _ _ _ _ (cutF es) rfl HML.out ((R5.out.below hbel).mono hbel.size) (own_rd hown.out (Nat.le_refl _))).mono ?_
      rintro e w6 ⟨rfl, m6, rfl⟩
      go_wp2_with fail
      refine (same_any _ _ _ _ _ _ es HEL.out hn ((Pr.out.drewN _).rd _ Pr.out.lt) ((Or.out.drewN _).rd _ Or.out.lt)).mono ?_
      rintro e w7 ⟨rfl, m7, rfl⟩
      go_wp2_with fail
      refine (same_any _ _ _ _ _ _ es HEL.out hn ((Qr.out.drewN _).rd _ Qr.out.lt) ((Or.out.drewN _).rd _ Or.out.lt)).mono ?_
      rintro e w8 ⟨rfl, m8, rfl⟩
      go_wp2_with fail
      go_ret
      refine ⟨rfl, ?_⟩
      rw [HG0.out]
      repeat' (first | exact Gr.out | refine below_drewN ?_ _)
end Go.Proofs.Ytginajepkfndoaa
