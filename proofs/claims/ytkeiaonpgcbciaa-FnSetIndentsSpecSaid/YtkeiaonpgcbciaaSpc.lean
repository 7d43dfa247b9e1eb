/- The walk of FnSetIndentsSpec. -/
import Derived.Test.YtkeiaonpgcbciaaBui
import Derived.Test.YtkeiaonpgcbciaaGrd
import Derived.Deep.DeepCutAuto
import Derived.Deep.CutBlock
namespace Go.Proofs.Ytkeiaonpgcbciaa
open Go.RowKit
set_option linter.unusedVariables false

/-- l is the last place whose kind is not interstitial, or -1. -/
def LastNL (ks : List Int) (n : Nat) (l : Int) : Prop :=
  (l = -1 ∧ ∀ j, j < n → kindI (ks.getD j 0) = 1) ∨ ∃ m : Nat, l = m ∧ m < n ∧ kindI (ks.getD m 0) ≠ 1 ∧ ∀ j, m < j → j < n → kindI (ks.getD j 0) = 1

/-- The indent that setIndents gives at place i. -/
theorem last_is (ks : List Int) (n : Nat) (l : Int) (h : LastNL ks n l) (i : Nat) (hi : i < n) (hk : kindI (ks.getD i 0) ≠ 1) (kl : List Int) (hkl : kl.length = n) (hke : ∀ j, j < n → kl[j]? = some (kindI (ks.getD j 0))) :
    (cntK kl i + 1 < cntK kl kl.length) ↔ ((i : Int) == l) = false := by
  have step : ∀ j, i < j → j ≤ n → (∀ m, i < m → m < j → kindI (ks.getD m 0) = 1) → cntK kl j = cntK kl i + 1 := by
    intro j hij
    induction j with
    | zero => omega
    | succ j ih =>
      intro hjn hall
      by_cases e : j = i
      · subst e
        exact cntK_yes _ _ _ (hke j hi) (by simpa using hk)
      · rw [cntK_no _ _ _ (hke j (by omega)) (by rw [hall j (by omega) (by omega)]; rfl)]
        exact ih (by omega) (by omega) fun m h1 h2 => hall m h1 (by omega)
  rw [hkl]
  rcases h with ⟨rfl, h⟩ | ⟨m, rfl, hm, hkm, hall⟩
  · exact absurd (h i hi) hk
  · by_cases e : i = m
    · subst e
      have := step n hi (Nat.le_refl _) hall
      simp [this]
    · have him : i < m := by
        rcases Nat.lt_or_ge i m with h1 | h1
        · exact h1
        · exact absurd (hall i (by omega) hi) hk
      have h1 : cntK kl i + 1 ≤ cntK kl m := by
        rw [← cntK_yes _ _ _ (hke i hi) (by simpa using hk)]
        exact cntK_mono _ _ _ (by omega)
      have h2 : cntK kl (m + 1) = cntK kl m + 1 := cntK_yes _ _ _ (hke m hm) (by simpa using hkm)
      have h3 := cntK_mono kl (m + 1) n (by omega)
      constructor
      · intro _
        simp
        omega
      · intro _
        omega

/-- What lies at place k behind setIndents. -/
theorem after_at {w : World} {g q : Nat} {ks bs is : List Int} {ss : List ByteArray} {es : List El} (h : Built w g ks bs is ss q es) (a1 b1 z : Int) (hz : LastNL ks q z) (k : Nat) (hk : k < q) :
    ∃ com ind, (setI es a1 b1)[k]? = some ⟨com, kindI (ks.getD k 0), bs.getD k 0, ind⟩ ∧ ComAt w g com (hasC (ks.getD k 0) (ss.getD k ⟨#[]⟩)) (ss.getD k ⟨#[]⟩) ∧
      (((kindI (ks.getD k 0) == 1) = true ∧ ind = is.getD k 0) ∨ ((kindI (ks.getD k 0) == 1) = false ∧ ((k : Int) == z) = true ∧ ind = b1) ∨ ((kindI (ks.getD k 0) == 1) = false ∧ ((k : Int) == z) = false ∧ ind = a1)) := by
  obtain ⟨com, h1, h2⟩ := h.2 k hk
  have hset := setI_at es a1 b1 k
  rw [h1] at hset
  simp only [Option.map_some] at hset
  have hkl : (kindsF es).length = q := by simp [kindsF, h.1]
  have hke : ∀ j, j < q → (kindsF es)[j]? = some (kindI (ks.getD j 0)) := by
    intro j hj
    obtain ⟨c, h3, _⟩ := h.2 j hj
    simp [kindsF, h3]
  by_cases hone : kindI (ks.getD k 0) = 1
  · refine ⟨com, is.getD k 0, ?_, h2, .inl ⟨by simp only [hone]; rfl, rfl⟩⟩
    rw [hset]
    simp only [upd, hone, if_true]
  · have hb : (kindI (ks.getD k 0) == 1) = false := by rw [beq_eq_false_iff_ne]; exact hone
    have hl := last_is ks q z hz k hk hone _ hkl hke
    cases ht : ((k : Int) == z)
    · refine ⟨com, a1, ?_, h2, .inr (.inr ⟨hb, rfl, rfl⟩)⟩
      rw [hset]
      simp only [upd]
      rw [if_neg hone, if_pos (hl.2 ht)]
    · refine ⟨com, b1, ?_, h2, .inr (.inl ⟨hb, rfl, rfl⟩)⟩
      rw [hset]
      simp only [upd]
      rw [if_neg hone, if_neg (fun h => by rw [hl.1 h] at ht; cases ht)]

set_option maxRecDepth 100000 in
set_option maxHeartbeats 12800000 in
theorem specLaw (w : World) (a b c d : Option Addr) (n ca m cb p cc q cd : Nat) (ks bs is : List Int) (ss : List ByteArray) (a1 b1 : Int) (ha : IsInts w a n ca ks) (hb : IsInts w b m cb bs) (hc : IsInts w c p cc is) (hd : IsStrs w d q cd ss) :
    Calls Try.prog 5 #[.slice a n ca, .slice b m cb, .slice c p cc, .slice d q cd, .int .i64 a1, .int .i64 b1] w fun e w' => e = .returned (.bool true) ∧ Below w.heap.size w w' := by
  have HA := Lib.hid ha
  have HB := Lib.hid hb
  have HC := Lib.hid hc
  have HD := Lib.hid hd
  obtain ⟨_, hlc, hcm, _, _, _⟩ := ha
  obtain ⟨_, hlc2, hcm2, _, _, _⟩ := hb
  obtain ⟨_, hlc3, hcm3, _, _, _⟩ := hc
  obtain ⟨_, hlc4, hcm4, _, _, _⟩ := hd
  unfold maxLen at hcm hcm2 hcm3 hcm4
  go_enter Try.func5, Try.ntmps5
  go_wp2_with fail
  refine (guard16 _ _ _ _ _ _ _ _ _ _ _ _ _ _ _ _ _ _ _ HA.out HB.out HC.out HD.out).mono ?_
  rintro e w1 ⟨r, rfl, rfl, hr⟩
  cases r
  · go_wp2_with fail
    go_ret
    exact ⟨rfl, Below.refl _ _⟩
  have hn := hr rfl
  clear hr
  go_wp2_with fail
  refine (bytes_any _ _ _ _ _ _ _ _ _ _ _ _ _ ks bs is ss HA.out HB.out HC.out HD.out).mono ?_
  rintro e w1 ⟨t, rfl, rfl⟩
  by_cases ht : 1048576 < t
  · go_wp2_with fail
    go_ret
    exact ⟨rfl, Below.refl _ _⟩
  by_cases hm : m = n
  rotate_left
  · have hm2 : ((m : Int) != (n : Int)) = true := by simp; omega
    go_wp2_with fail
    go_ret
    exact ⟨rfl, Below.refl _ _⟩
  by_cases hp : p = n
  rotate_left
  · have hm2 : ((p : Int) != (n : Int)) = true := by simp; omega
    subst hm
    go_wp2_with fail
    go_ret
    exact ⟨rfl, Below.refl _ _⟩
  by_cases hq : q = n
  rotate_left
  · have hm2 : ((q : Int) != (n : Int)) = true := by simp; omega
    subst hm
    subst hp
    go_wp2_with fail
    go_ret
    exact ⟨rfl, Below.refl _ _⟩
  subst hm
  subst hp
  subst hq
  go_wp2_with fail
  refine (cloneI_any _ _ _ _ _ HA.out (by omega)).mono ?_
  rintro e w1 ⟨a', rfl, i1, bel1⟩
  have I1 := Lib.hid i1
  have J2 := Lib.hid (HB.out.below bel1)
  have J3 := Lib.hid (HC.out.below bel1)
  have J4 := Lib.hid (HD.out.below bel1)
  have Z1 := bel1.size
  have B1 := Lib.hid bel1
  clear i1 bel1 HA HB HC HD
  go_wp2_with fail
  refine (cloneI_any _ _ _ _ _ J2.out (by omega)).mono ?_
  rintro e w2 ⟨b', rfl, i1, bel1⟩
  have I1 := Lib.hid (I1.out.below bel1)
  have I2 := Lib.hid i1
  have J3 := Lib.hid (J3.out.below bel1)
  have J4 := Lib.hid (J4.out.below bel1)
  have B1 := Lib.hid (B1.out.trans (bel1.mono Z1))
  have Z1 := Nat.le_trans Z1 bel1.size
  clear i1 bel1 J2
  go_wp2_with fail
  refine (cloneI_any _ _ _ _ _ J3.out (by omega)).mono ?_
  rintro e w3 ⟨c', rfl, i1, bel1⟩
  have I1 := Lib.hid (I1.out.below bel1)
  have I2 := Lib.hid (I2.out.below bel1)
  have I3 := Lib.hid i1
  have J4 := Lib.hid (J4.out.below bel1)
  have B1 := Lib.hid (B1.out.trans (bel1.mono Z1))
  have Z1 := Nat.le_trans Z1 bel1.size
  clear i1 bel1 J3
  go_wp2_with fail
  refine (cloneS_any _ _ _ _ _ J4.out (by omega)).mono ?_
  rintro e w4 ⟨d', rfl, i1, bel1⟩
  have I1 := Lib.hid (I1.out.below bel1)
  have I2 := Lib.hid (I2.out.below bel1)
  have I3 := Lib.hid (I3.out.below bel1)
  have I4 := Lib.hid i1
  have B1 := Lib.hid (B1.out.trans (bel1.mono Z1))
  have Z1 := Nat.le_trans Z1 bel1.size
  clear i1 bel1 J4
  go_wp2_with fail
  refine (build_any _ _ _ _ _ _ _ _ _ _ _ _ _ _ I1.out I2.out I3.out I4.out (by omega)).mono ?_
  rintro e w5 ⟨rfl, ⟨es, hbu, k1⟩, bel1⟩
  have D4 := Lib.hid bel1
  have hz := bel1.size
  have hlt := k1.lt
  clear bel1
  generalize hg : w4.heap.size = g at *
  have HG := Lib.hid hg
  have BU := Lib.hid hbu
  have K1 := Lib.hid k1
  clear k1 hg hbu
  go_wp2_with fail
  refine (zset_any _ g q es a1 b1 BU.out.1 (by omega) BU.out.coms K1.out).mono ?_
  rintro e w6 ⟨rfl, k1, gr⟩
  have K1 := Lib.hid k1
  have BU := Lib.hid (BU.out.grown gr)
  have hlt := k1.lt
  have D4 := Lib.hid (D4.out.grown gr hz (by intro q hq; injection hq with hq; omega))
  have I1 : Hid (IsInts w6 a' q q ks) := Lib.hid (I1.out.below (by rw [HG.out]; exact D4.out))
  have I2 : Hid (IsInts w6 b' q q bs) := Lib.hid (I2.out.below (by rw [HG.out]; exact D4.out))
  have I3 : Hid (IsInts w6 c' q q is) := Lib.hid (I3.out.below (by rw [HG.out]; exact D4.out))
  have I4 : Hid (IsStrs w6 d' q q ss) := Lib.hid (I4.out.below (by rw [HG.out]; exact D4.out))
  have B1 := Lib.hid (B1.out.trans (D4.out.mono Z1))
  have Z1 : w.heap.size ≤ w6.heap.size := by omega
  clear k1 gr D4 hz
  go_upto_block 0 with fail
  go_cut [15] (fun l wx => Hid (∃ z : Int, l = .int .i64 z ∧ LastNL ks q z) ∧ wx = w6)
  case first =>
    go_wp2_with fail
    go_loop [15, 16] (fun l i => ∃ k : Nat, k ≤ q ∧ i = .int .i64 ((k : Int) - 1) ∧ l = .int .i64 (-1) ∧ Hid (∀ j, k ≤ j → j < q → kindI (ks.getD j 0) = 1)) (fun _ i => (intOf i + 1).toNat)
    case atStart => exact ⟨q, Nat.le_refl _, rfl, rfl, Lib.hid fun j h1 h2 => by omega⟩
    case round =>
      obtain ⟨k, hk, rfl, rfl, hall⟩ := hrel
      cases k with
      | zero =>
        go_wp2_with fail
        go_meet
        exact ⟨Lib.hid ⟨-1, rfl, .inl ⟨rfl, fun j hj => hall.out j (Nat.zero_le _) hj⟩⟩, rfl⟩
      | succ k =>
        have e1 : ((k + 1 : Nat) : Int) - 1 = (k : Int) := by omega
        rw [e1]
        obtain ⟨b1, off1, rfl, hb1, hc1⟩ := I1.out.2.2.2.2.2.pos (by simp [I1.out.1]; omega)
        have hks := I1.out.1
        have x1 := int_at hc1 (k := k) (by omega)
        have EX : Hid (ks.getD k 0 = ks[k]'(by omega)) := by simp [Hid, List.getD, hks, show k < q by omega]
        generalize (ks[k]'(by omega)) = x at *
        clear hc1
        go_wp2_with fail
        refine (kind_any _ _).mono ?_
        rintro e w7 ⟨rfl, rfl⟩
        cases hkx : (kindI x != 1)
        · go_wp2_with fail
          go_round
          case rel =>
            refine ⟨k, by omega, rfl, rfl, Lib.hid fun j h1 h2 => ?_⟩
            by_cases e : j = k
            · subst e
              rw [EX.out]
              simpa using hkx
            · exact hall.out j (by omega) h2
          case measure => first | (simp [intOf]; done) | (simp [intOf]; omega)
        · go_wp2_with fail
          go_meet
          refine ⟨Lib.hid ⟨k, rfl, .inr ⟨k, rfl, by omega, ?_, fun j h1 h2 => hall.out j (by omega) h2⟩⟩, rfl⟩
          rw [EX.out]
          simpa using hkx
  case rest =>
    obtain ⟨hl, rfl⟩ := hcut
    obtain ⟨z, rfl, hnl⟩ := hl.out
    have HNL := Lib.hid hnl
    clear hnl hl
    go_wp2_with fail
    go_loopw [17] (fun i wr => ∃ k : Nat, k ≤ q ∧ i = .int .i64 k ∧ Hid (Below wc.heap.size wc wr)) (fun i _ => q - (intOf i).toNat)
    case atStart => exact ⟨0, Nat.zero_le _, rfl, Lib.hid (Below.refl _ _)⟩
    case round =>
      obtain ⟨k, hk, rfl, hbel⟩ := hrel
      by_cases hltk : k < q
      · obtain ⟨com, ind, hset, hcom, hcase⟩ := after_at (BU.out.under hbel.out) a1 b1 z HNL.out k hltk
        obtain ⟨b1', off1, rfl, hb1, hc1⟩ := (I1.out.below hbel.out).2.2.2.2.2.pos (by simp [I1.out.1]; omega)
        obtain ⟨b2', off2, rfl, hb2, hc2⟩ := (I2.out.below hbel.out).2.2.2.2.2.pos (by simp [I2.out.1]; omega)
        obtain ⟨b3', off3, rfl, hb3, hc3⟩ := (I3.out.below hbel.out).2.2.2.2.2.pos (by simp [I3.out.1]; omega)
        obtain ⟨b4', off4, rfl, hb4, hc4⟩ := (I4.out.below hbel.out).2.2.2.2.2.pos (by simp [I4.out.1]; omega)
        have l1 := I1.out.1
        have l2 := I2.out.1
        have l3 := I3.out.1
        have l4 := I4.out.1
        have x1 := int_at hc1 (k := k) (by omega)
        have x2 := int_at hc2 (k := k) (by omega)
        have x3 := int_at hc3 (k := k) (by omega)
        have x4 := str_at hc4 (k := k) (by omega)
        rw [show ks.getD k 0 = ks[k]'(by omega) by simp [List.getD, l1, hltk]] at hset hcom hcase
        rw [show bs.getD k 0 = bs[k]'(by omega) by simp [List.getD, l2, hltk]] at hset
        rw [show is.getD k 0 = is[k]'(by omega) by simp [List.getD, l3, hltk]] at hcase
        rw [show ss.getD k ⟨#[]⟩ = ss[k]'(by omega) by simp [List.getD, l4, hltk]] at hcom
        generalize (ks[k]'(by omega)) = x at *
        generalize (bs[k]'(by omega)) = y at *
        generalize (is[k]'(by omega)) = zi at *
        generalize (ss[k]'(by omega)) = s at *
        obtain ⟨y0, y1, y2, y3⟩ := blk_at (K1.out.under hbel.out) hset
        simp only at y0 y1 y2 y3
        obtain ⟨ca', cl', cc', hsl⟩ := hcom.is_slice
        have hszr := hbel.out.size
        have HN := Lib.hid (Blk.new wr 38 #[com, .int .i64 (kindI x), .int .i64 y, .int .i64 ind])
        have BA := (Below.refl wr.heap.size wr).alloc (Nat.le_refl _) (.cells #[com, .int .i64 (kindI x), .int .i64 y, .int .i64 ind] 38)
        have HBE := Lib.hid (hbel.out.alloc hbel.out.size (.cells #[com, .int .i64 (kindI x), .int .i64 y, .int .i64 ind] 38))
        have HCO := Lib.hid (hcom.keep (w' := wr.alloc (.cells #[com, .int .i64 (kindI x), .int .i64 y, .int .i64 ind] 38)) fun b _ hl => BA.block b hl)
        have HCS := Lib.hid hcase
        have x1' := (BA.cell (p := ⟨b1', off1 + k, none⟩) (by simp; omega)).trans x1
        have x2' := (BA.cell (p := ⟨b2', off2 + k, none⟩) (by simp; omega)).trans x2
        have x3' := (BA.cell (p := ⟨b3', off3 + k, none⟩) (by simp; omega)).trans x3
        have x4' := (BA.cell (p := ⟨b4', off4 + k, none⟩) (by simp; omega)).trans x4
        clear hc1 hc2 hc3 hc4 hset hcom hcase BA
        subst hsl
        go_wp2_with fail
        refine (kind_any _ _).mono ?_
        rintro e w7 ⟨rfl, rfl⟩
        have n0 := HN.out.cell 0
        have n1 := HN.out.cell 1
        have n2 := HN.out.cell 2
        have n3 := HN.out.cell 3
        simp only [List.getElem?_toArray, List.getElem?_cons_succ, List.getElem?_cons_zero] at n0 n1 n2 n3
        clear x1 x2 x3 x4 y0 y1 y2 y3 HN
        generalize wr.alloc (.cells #[.slice ca' cl' cc', .int .i64 (kindI x), .int .i64 y, .int .i64 ind] 38) = w9 at *
        go_wp2_with fail
        go_quiet (fail)
        go_wp2_with fail
        refine wp_region_tail 9 (by kernel_rfl) (by kernel_rfl) ?_
        simp only [List.take_succ_cons, List.take_zero, List.drop_succ_cons, List.drop_zero]
        repeat still_step
        refine wpStill_nil ?_
        go_wp2_with fail
        refine (has_any _ _ _).mono ?_
        rintro e w8 ⟨rfl, rfl⟩
        have hco := HCO.out
        cases hh : hasC x s
        · rw [hh] at hco
          have hco' : Value.slice ca' cl' cc' = .slice none 0 0 := hco
          injection hco' with e1 e2 e3
          subst e1
          subst e2
          subst e3
          clear hco hh HCO
          rcases HCS.out with ⟨t1, hi⟩ | ⟨t1, t2, hi⟩ | ⟨t1, t2, hi⟩
          all_goals
            rw [hi] at n3
            clear hi HCS
            go_wp2_with fail
            go_roundw
            case rel => exact ⟨k + 1, by omega, by go_num, Lib.hid (below_drewN HBE.out _).drew⟩
            case measure => simp [intOf]; omega
        · rw [hh] at hco
          obtain ⟨bc, hco', hgb, hblc⟩ := hco
          injection hco' with e1 e2 e3
          subst e1
          subst e2
          subst e3
          have c0 := hblc.cell 0
          simp only [List.getElem?_toArray, List.getElem?_cons_zero] at c0
          clear hh HCO hblc
          go_wp2_with fail
          go_quiet (fail)
          rcases HCS.out with ⟨t1, hi⟩ | ⟨t1, t2, hi⟩ | ⟨t1, t2, hi⟩
          all_goals
            rw [hi] at n3
            clear hi HCS
            go_wp2_with fail
            go_roundw
            case rel => exact ⟨k + 1, by omega, by go_num, Lib.hid (below_drewN HBE.out _)⟩
            case measure => simp [intOf]; omega
      · go_wp2_with fail
        go_ret
        exact ⟨rfl, B1.out.trans (hbel.out.mono Z1)⟩
end Go.Proofs.Ytkeiaonpgcbciaa
