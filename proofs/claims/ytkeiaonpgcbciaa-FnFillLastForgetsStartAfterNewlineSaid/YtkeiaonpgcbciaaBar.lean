/- zzBuildBare, ZZSetIndents and the walk of FnSetIndentsLastCallWins. -/
import Derived.Test.YtkeiaonpgcbciaaBld
namespace Go.Proofs.Ytkeiaonpgcbciaa
open Go.RowKit
set_option linter.unusedVariables false

/-- The element that zzBuildBare makes at place i. -/
def barEl (ks bs is : List Int) (i : Nat) : El := ⟨.slice none 0 0, kindI (ks.getD i 0), bs.getD i 0, is.getD i 0⟩
def barEls (ks bs is : List Int) (k : Nat) : List El := (List.range k).map (barEl ks bs is)
theorem barEls_succ (ks bs is : List Int) (k : Nat) : barEls ks bs is (k + 1) = barEls ks bs is k ++ [barEl ks bs is k] := by simp [barEls, List.range_succ]
theorem barEls_len (ks bs is : List Int) (k : Nat) : (barEls ks bs is k).length = k := by simp [barEls]
theorem barEls_coms (ks bs is : List Int) (k : Nat) : Coms (barEls ks bs is k) := by
  intro e he
  simp only [barEls, List.mem_map] at he
  obtain ⟨i, _, rfl⟩ := he
  exact ⟨_, _, _, rfl⟩

/-- Elements that begin with es, the others all nil and zero. -/
def zeroEl : El := ⟨.slice none 0 0, 0, 0, 0⟩
def padF (es : List El) (n : Nat) : List El := es ++ List.replicate (n - es.length) zeroEl
theorem padF_at (es : List El) (n k : Nat) (h : es.length = k) (hk : k < n) : (padF es n)[k]? = some zeroEl := by
  unfold padF
  rw [List.getElem?_append_right (by omega), h, Nat.sub_self, List.getElem?_replicate, if_pos (by omega)]
theorem padF_set (es : List El) (n k : Nat) (e : El) (h : es.length = k) (hk : k < n) : (padF es n).set k e = padF (es ++ [e]) n := by
  unfold padF
  rw [List.set_append_right _ _ (by omega), h, Nat.sub_self]
  obtain ⟨m, hm⟩ : ∃ m, n - k = m + 1 := ⟨n - k - 1, by omega⟩
  rw [hm, List.replicate_succ, List.set_cons_zero, List.append_assoc]
  simp only [List.length_append, List.length_cons, List.length_nil, List.singleton_append]
  rw [show n - (es.length + (0 + 1)) = m by omega]
theorem padF_full (es : List El) : padF es es.length = es := by simp [padF]
theorem cellsF_zero (n : Nat) : (madeCells (Value.agg #[.slice none 0 0, .int .i64 0, .int .i64 0, .int .i64 0]).cells (n * 4)) = (cellsF (padF [] n)).toArray := by
  have hz : (Value.agg #[.slice none 0 0, .int .i64 0, .int .i64 0, .int .i64 0]).cells = #[.slice none 0 0, .int .i64 0, .int .i64 0, .int .i64 0] := by simp [Value.cells]
  rw [hz]
  apply Array.ext_getElem?
  intro j
  have hlen : (padF [] n).length = n := by simp [padF]
  rcases Nat.lt_or_ge j (n * 4) with hj | hj
  · have hL : (madeCells #[Value.slice none 0 0, .int .i64 0, .int .i64 0, .int .i64 0] (n * 4))[j]? = some (#[Value.slice none 0 0, .int .i64 0, .int .i64 0, .int .i64 0][j % 4]!) := by
      simp [madeCells, hj]
    have hR := cellsF_at (padF [] n) (j / 4) (j % 4) zeroEl (by simp only [padF, List.nil_append, List.length_nil, Nat.sub_zero, List.getElem?_replicate]; rw [if_pos (by omega)]) (by omega)
    rw [hL, List.getElem?_toArray, show j = j / 4 * 4 + j % 4 by omega, hR]
    have h4 : (j / 4 * 4 + j % 4) % 4 = j % 4 := by omega
    rw [h4]
    have : j % 4 < 4 := by omega
    generalize j % 4 = m at *
    rcases m with _ | _ | _ | _ | m
    · rfl
    · rfl
    · rfl
    · rfl
    · omega
  · rw [Array.getElem?_eq_none (by rw [size_madeCells]; omega), Array.getElem?_eq_none (by rw [List.size_toArray, cellsF_len, hlen]; omega)]
/-- Four cells of one element overwritten. -/
theorem cellsF_set4 (es : List El) (i : Nat) (e : El) (u0 : Value) (u1 u2 u3 : Int) (h : es[i]? = some e) : (((((cellsF es).toArray.setIfInBounds (i * 4) u0).setIfInBounds (i * 4 + 1) (.int .i64 u1)).setIfInBounds (i * 4 + 2) (.int .i64 u2)).setIfInBounds (i * 4 + 3) (.int .i64 u3)) = (cellsF (es.set i ⟨u0, u1, u2, u3⟩)).toArray := by
  obtain ⟨hi, _⟩ := List.getElem?_eq_some_iff.1 h
  obtain ⟨c, k, b, d⟩ := e
  rw [show i * 4 = i * 4 + 0 from rfl, cellsF_set es i 0 _ ⟨u0, k, b, d⟩ u0 h (by omega) rfl]
  rw [cellsF_set _ i 1 ⟨u0, k, b, d⟩ ⟨u0, u1, b, d⟩ _ (by simp [hi]) (by omega) rfl]
  rw [cellsF_set _ i 2 ⟨u0, u1, b, d⟩ ⟨u0, u1, u2, d⟩ _ (by simp [hi]) (by omega) rfl]
  rw [cellsF_set _ i 3 ⟨u0, u1, u2, d⟩ ⟨u0, u1, u2, u3⟩ _ (by simp [hi]) (by omega) rfl]
  simp

set_option maxRecDepth 100000 in
set_option maxHeartbeats 3200000 in
theorem bare_any (w : World) (a b c : Option Addr) (n ca cb cc : Nat) (ks bs is : List Int) (ha : IsInts w a n ca ks) (hb : IsInts w b n cb bs) (hc : IsInts w c n cc is) (hle : n ≤ 1048576) :
    Calls Try.prog 14 #[.slice a n ca, .slice b n cb, .slice c n cc] w fun e w' => e = .returned (.slice (some ⟨w.heap.size, 0, none⟩) n n) ∧ Blk w' w.heap.size 38 (cellsF (barEls ks bs is n)).toArray ∧ Below w.heap.size w w' := by
  obtain ⟨hl, hlc, hcm, _, _, hr⟩ := ha
  obtain ⟨hl2, hlc2, hcm2, _, _, hr2⟩ := hb
  obtain ⟨hl3, hlc3, hcm3, _, _, hr3⟩ := hc
  obtain ⟨i0, hi, hz0, hz1, hz2⟩ := info_parts Try.inf38
  have hmk := fun W => run_make_n (P := Try.prog) 30 38 i0 _ Try.underlying30 hi hz0 .i64 .i64 n n (Nat.le_refl _) (by rw [hz2]; omega) (by omega) W
  rw [hz1, cellsF_zero] at hmk
  have HL := Lib.hid hl
  have HL2 := Lib.hid hl2
  have HL3 := Lib.hid hl3
  have HR := Lib.hid hr
  have HR2 := Lib.hid hr2
  have HR3 := Lib.hid hr3
  clear hi hz0 hz1 hz2 hl hl2 hl3 hr hr2 hr3 hcm hcm2 hcm3
  go_enter Try.func14, Try.ntmps14
  go_wp2_with fail
  go_loopw [9] (fun i wr => ∃ k : Nat, k ≤ n ∧ i = .int .i64 k ∧ Hid (Blk wr w.heap.size 38 (cellsF (padF (barEls ks bs is k) n)).toArray) ∧ Below w.heap.size w wr) (fun i _ => n - (intOf i).toNat)
  case atStart => exact ⟨0, Nat.zero_le _, rfl, Lib.hid (Blk.new _ _ _), (Below.refl _ _).alloc (Nat.le_refl _) _⟩
  case round =>
    obtain ⟨k, hk, rfl, hblk, hbel⟩ := hrel
    by_cases hlt : k < n
    · obtain ⟨b1, off1, rfl, hb1, hc1⟩ := (HR.out.below hbel).pos (by simp [HL.out]; omega)
      obtain ⟨b2, off2, rfl, hb2, hc2⟩ := (HR2.out.below hbel).pos (by simp [HL2.out]; omega)
      obtain ⟨b3, off3, rfl, hb3, hc3⟩ := (HR3.out.below hbel).pos (by simp [HL3.out]; omega)
      have x1 := int_at hc1 (k := k) (by rw [HL.out]; exact hlt)
      have x2 := int_at hc2 (k := k) (by rw [HL2.out]; exact hlt)
      have x3 := int_at hc3 (k := k) (by rw [HL3.out]; exact hlt)
      have E : Hid (barEl ks bs is k = ⟨.slice none 0 0, kindI (ks[k]'(by rw [HL.out]; exact hlt)), bs[k]'(by rw [HL2.out]; exact hlt), is[k]'(by rw [HL3.out]; exact hlt)⟩) := by
        simp [Hid, barEl, List.getD, HL.out, HL2.out, HL3.out, hlt]
      generalize (ks[k]'(by rw [HL.out]; exact hlt)) = x at *
      generalize (bs[k]'(by rw [HL2.out]; exact hlt)) = y at *
      generalize (is[k]'(by rw [HL3.out]; exact hlt)) = z at *
      obtain ⟨y0, y1, y2, y3⟩ := blk_at hblk.out (padF_at _ n k (barEls_len _ _ _ _) hlt)
      have f0 := hblk.out.free (k * 4)
      have f1 := hblk.out.free (k * 4 + 1)
      have f2 := hblk.out.free (k * 4 + 2)
      have f3 := hblk.out.free (k * 4 + 3)
      clear hc1 hc2 hc3
      go_wp2_with fail
      refine wp_region_tail 17 (by kernel_rfl) (by kernel_rfl) ?_
      simp only [List.take_succ_cons, List.take_zero, List.drop_succ_cons, List.drop_zero]
      repeat still_step
      still_call ((kind_any _ _).mono fun e w1 h => ⟨h.1, h.2.symm⟩)
      repeat still_step
      refine wpStill_nil ?_
      go_wp2
      go_roundw
      case rel =>
        refine ⟨k + 1, by omega, by go_num, Lib.hid ?_, ?_⟩
        · have h5 := (((hblk.out.set (k * 4) (.slice none 0 0)).set (k * 4 + 1) (.int .i64 (kindI x))).set (k * 4 + 2) (.int .i64 y)).set (k * 4 + 3) (.int .i64 z)
          rw [cellsF_set4 _ k _ _ _ _ _ (padF_at _ n k (barEls_len _ _ _ _) hlt), padF_set _ n k _ (barEls_len _ _ _ _) hlt, ← E.out, ← barEls_succ] at h5
          exact h5.drew
        · exact (((((hbel.setCell (Nat.le_refl _) _).setCell (Nat.le_refl _) _).setCell (Nat.le_refl _) _).setCell (Nat.le_refl _) _)).drew
      case measure => simp [intOf]; omega
    · have hkn : k = n := by omega
      subst hkn
      go_wp2_with fail
      go_ret
      refine ⟨rfl, ?_, hbel⟩
      have h5 := padF_full (barEls ks bs is k)
      rw [barEls_len] at h5
      have := hblk.out
      rw [h5] at this
      exact this

set_option maxHeartbeats 1600000 in
theorem zset_any (w : World) (g n : Nat) (es : List El) (a b : Int) (hlen : es.length = n) (hn : n ≤ 1048576) (hco : Coms es) (hB : Blk w g 38 (cellsF es).toArray) :
    Calls Try.prog 15 #[.slice (some ⟨g, 0, none⟩) n n, .int .i64 a, .int .i64 b] w fun e w' => e = .returned (.tuple #[]) ∧ Blk w' g 38 (cellsF (setI es a b)).toArray ∧ w.grownBy w' (some g) := by
  have H := Lib.hid hB
  have HL := Lib.hid hlen
  have HC := Lib.hid hco
  clear hB hlen hco
  go_enter Try.func15, Try.ntmps15
  go_wp2_with fail
  refine (setInd_any _ _ g n es a b HL.out hn HC.out (H.out.alloc _)).mono ?_
  rintro e w1 ⟨rfl, h1, h2⟩
  have H1 := Lib.hid h1
  have H2 := Lib.hid (Lib.grownBy_trans (World.grownBy_alloc w _ (some g)) h2)
  clear h1 h2
  go_wp2_with fail
  go_end0
  exact ⟨rfl, H1.out, H2.out⟩

theorem setI_coms {es : List El} (h : Coms es) (a b : Int) : Coms (setI es a b) := by
  intro e he
  obtain ⟨i, hi⟩ := List.getElem?_of_mem he
  rw [setI_at] at hi
  cases h2 : es[i]? with
  | none => rw [h2] at hi; cases hi
  | some x =>
    rw [h2] at hi
    simp only [Option.map_some, Option.some.injEq] at hi
    obtain ⟨p, q, r, hx⟩ := h x (List.mem_of_getElem? h2)
    exact ⟨p, q, r, by rw [← hi, upd_com, hx]⟩

set_option maxRecDepth 100000 in
set_option maxHeartbeats 6400000 in
theorem winsLaw (w : World) (a b c : Option Addr) (n ca m cb p cc : Nat) (ks bs is : List Int) (a1 b1 a2 b2 : Int) (ha : IsInts w a n ca ks) (hb : IsInts w b m cb bs) (hc : IsInts w c p cc is) :
    Calls Try.prog 4 #[.slice a n ca, .slice b m cb, .slice c p cc, .int .i64 a1, .int .i64 b1, .int .i64 a2, .int .i64 b2] w fun e w' => e = .returned (.bool true) ∧ Below w.heap.size w w' := by
  have HA := Lib.hid ha
  have HB := Lib.hid hb
  have HC := Lib.hid hc
  obtain ⟨_, hlc, hcm, _, _, _⟩ := ha
  obtain ⟨_, hlc2, hcm2, _, _, _⟩ := hb
  obtain ⟨_, hlc3, hcm3, _, _, _⟩ := hc
  unfold maxLen at hcm hcm2 hcm3
  by_cases g1 : 1048576 < n
  · go_enter Try.func4, Try.ntmps4
    go_wp2_with (first | (go_at_call 13; go_in) | fail)
    go_ret
    exact ⟨rfl, Below.refl _ _⟩
  by_cases g2 : 1048576 < m
  · go_enter Try.func4, Try.ntmps4
    go_wp2_with (first | (go_at_call 13; go_in) | fail)
    go_ret
    exact ⟨rfl, Below.refl _ _⟩
  by_cases g3 : 1048576 < n + m
  · go_enter Try.func4, Try.ntmps4
    go_wp2_with (first | (go_at_call 13; go_in) | fail)
    go_ret
    exact ⟨rfl, Below.refl _ _⟩
  by_cases g4 : 1048576 < p
  · go_enter Try.func4, Try.ntmps4
    go_wp2_with (first | (go_at_call 13; go_in) | fail)
    go_ret
    exact ⟨rfl, Below.refl _ _⟩
  by_cases g5 : 1048576 < n + m + p
  · go_enter Try.func4, Try.ntmps4
    go_wp2_with (first | (go_at_call 13; go_in) | fail)
    go_ret
    exact ⟨rfl, Below.refl _ _⟩
  go_enter Try.func4, Try.ntmps4
  go_wp2_with (first | (go_at_call 13; go_in) | fail)
  refine (bytes_any _ _ _ _ _ _ _ _ _ _ _ _ _ ks bs is [] HA.out HB.out HC.out ⟨rfl, Nat.le_refl _, Nat.zero_le _, fun _ => rfl, by simp, .inl rfl⟩).mono ?_
  rintro e w1 ⟨t, rfl, rfl⟩
  by_cases ht : 1048576 < t
  · go_wp2_with fail
    go_ret
    exact ⟨rfl, Below.refl _ _⟩
  by_cases hm : m = n
  rotate_left
  · have hm2 : ((m : Int) != (n : Int)) = true := by simp; omega
    go_wp2_with fail
    go_ret
    exact ⟨rfl, Below.refl _ _⟩
  by_cases hp : p = n
  rotate_left
  · have hm2 : ((p : Int) != (n : Int)) = true := by simp; omega
    subst hm
    go_wp2_with fail
    go_ret
    exact ⟨rfl, Below.refl _ _⟩
  subst hm
  subst hp
  go_wp2_with fail
  refine (cloneI_any _ _ _ _ _ HA.out (by omega)).mono ?_
  rintro e w1 ⟨a', rfl, i1, bel1⟩
  have I1 := Lib.hid i1
  have J2 := Lib.hid (HB.out.below bel1)
  have J3 := Lib.hid (HC.out.below bel1)
  have Z1 := bel1.size
  have B1 := Lib.hid bel1
  clear i1 bel1 HA HB HC
  go_wp2_with fail
  refine (cloneI_any _ _ _ _ _ J2.out (by omega)).mono ?_
  rintro e w2 ⟨b', rfl, i1, bel1⟩
  have I1 := Lib.hid (I1.out.below bel1)
  have I2 := Lib.hid i1
  have J3 := Lib.hid (J3.out.below bel1)
  have B1 := Lib.hid (B1.out.trans (bel1.mono Z1))
  have Z1 := Nat.le_trans Z1 bel1.size
  clear i1 bel1 J2
  go_wp2_with fail
  refine (cloneI_any _ _ _ _ _ J3.out (by omega)).mono ?_
  rintro e w3 ⟨c', rfl, i1, bel1⟩
  have I1 := Lib.hid (I1.out.below bel1)
  have I2 := Lib.hid (I2.out.below bel1)
  have I3 := Lib.hid i1
  have B1 := Lib.hid (B1.out.trans (bel1.mono Z1))
  have Z1 := Nat.le_trans Z1 bel1.size
  clear i1 bel1 J3
  go_wp2_with fail
  refine (bare_any _ _ _ _ _ _ _ _ _ _ _ I1.out I2.out I3.out (by omega)).mono ?_
  rintro e w4 ⟨rfl, k1, bel1⟩
  have D4 := Lib.hid bel1
  have hz := bel1.size
  have hlt := k1.lt
  clear bel1
  generalize hg : w3.heap.size = g at *
  have HG := Lib.hid hg
  generalize hes : barEls ks bs is p = es at *
  have HL : Hid (es.length = p) := by rw [← hes]; exact barEls_len _ _ _ _
  have HCO : Hid (Coms es) := by rw [← hes]; exact barEls_coms _ _ _ _
  have K1 := Lib.hid k1
  have HES := Lib.hid hes
  clear k1 hes hg
  go_wp2_with fail
  refine (zset_any _ g p es a1 b1 HL.out (by omega) HCO.out K1.out).mono ?_
  rintro e w5 ⟨rfl, k1, gr⟩
  have K1 := Lib.hid k1
  have D4 := Lib.hid (D4.out.grown gr hz (by intro q hq; injection hq with hq; omega))
  have hz := Nat.le_trans hz gr.size
  clear k1 gr
  go_wp2_with fail
  refine (zset_any _ g p (setI es a1 b1) a2 b2 (by rw [setI_len]; exact HL.out) (by omega) (setI_coms HCO.out _ _) K1.out).mono ?_
  rintro e w6 ⟨rfl, k1, gr⟩
  rw [setI_setI] at k1
  have K1 := Lib.hid k1
  have hlt := k1.lt
  have D4 := Lib.hid (D4.out.grown gr hz (by intro q hq; injection hq with hq; omega))
  have hz := Nat.le_trans hz gr.size
  clear k1 gr
  have I1 : Hid (IsInts w6 a' p p ks) := Lib.hid (I1.out.below (by rw [HG.out]; exact D4.out))
  have I2 : Hid (IsInts w6 b' p p bs) := Lib.hid (I2.out.below (by rw [HG.out]; exact D4.out))
  have I3 : Hid (IsInts w6 c' p p is) := Lib.hid (I3.out.below (by rw [HG.out]; exact D4.out))
  have B1 := Lib.hid (B1.out.trans (D4.out.mono Z1))
  have Z1 : w.heap.size ≤ w6.heap.size := by have := HG.out; omega
  clear D4
  go_wp2_with fail
  refine (bare_any _ _ _ _ _ _ _ _ _ _ _ I1.out I2.out I3.out (by omega)).mono ?_
  rintro e w7 ⟨rfl, k1, bel1⟩
  rw [HES.out] at k1
  have K1 := Lib.hid (K1.out.under bel1)
  have K2 := Lib.hid k1
  have B1 := Lib.hid (B1.out.trans (bel1.mono Z1))
  have hz7 := bel1.size
  have hgh : g < w6.heap.size := hlt
  have hwh : w.heap.size ≤ w6.heap.size := Z1
  clear k1 bel1 I1 I2 I3 hz hlt Z1
  generalize w6.heap.size = h at *
  go_wp2_with fail
  refine (zset_any _ h p es a2 b2 HL.out (by omega) HCO.out K2.out).mono ?_
  rintro e w8 ⟨rfl, k1, gr⟩
  have K1 := Lib.hid (K1.out.grown gr (by simp; omega))
  have K2 := Lib.hid k1
  have B1 := Lib.hid (B1.out.grown gr (by omega) (by intro q hq; injection hq with hq; omega))
  clear k1 gr
  have HL2 : Hid ((setI es a2 b2).length = p) := by unfold Hid; rw [setI_len]; exact HL.out
  generalize setI es a2 b2 = fs at *
  go_wp2_with fail
  go_loopw [18] (fun i wr => ∃ k q : Nat, k ≤ p ∧ i = .int .i64 k ∧ wr = w8.drewN q) (fun i _ => p - (intOf i).toNat)
  case atStart => exact ⟨0, 0, Nat.zero_le _, rfl, rfl⟩
  case round =>
    obtain ⟨k, q, hk, rfl, rfl⟩ := hrel
    by_cases hlt : k < p
    · obtain ⟨e, he⟩ : ∃ e, fs[k]? = some e := ⟨fs[k]'(by rw [HL2.out]; omega), by simp⟩
      obtain ⟨_, x1, x2, x3⟩ := blk_at K1.out he
      obtain ⟨_, y1, y2, y3⟩ := blk_at K2.out he
      clear he
      go_wp2_with fail
      go_quiet (fail)
      go_wp2_with fail
      go_roundw
      case rel => exact ⟨k + 1, _, by omega, by go_num, by first | rfl | (simp only [World.drewN_drewN]; rfl)⟩
      case measure => simp [intOf]; omega
    · go_wp2_with fail
      go_ret
      exact ⟨rfl, below_drewN B1.out _⟩
end Go.Proofs.Ytkeiaonpgcbciaa
