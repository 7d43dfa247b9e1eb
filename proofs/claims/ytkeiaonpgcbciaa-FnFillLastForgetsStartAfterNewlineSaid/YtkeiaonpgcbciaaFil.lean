/- zzHasNewlineKind, ZZFillLast and the walk of FnFillLastForgetsStartAfterNewline. -/
import Derived.Test.YtkeiaonpgcbciaaBui
import Derived.Test.YtkeiaonpgcbciaaGrd
import Derived.Deep.DeepCutAuto
import Derived.Deep.CutBlock
namespace Go.Proofs.Ytkeiaonpgcbciaa
open Go.RowKit
set_option linter.unusedVariables false

/-! ### the column in plain words -/

def stepC (kl : List Int) (a b : Int) (ss : List ByteArray) (k : Nat) (st : Int × Bool) : Int × Bool :=
  if kl.getD k 0 = 1 then (wrap64 ((if st.2 then wrap64 (st.1 + 1) else st.1) + ((ss.getD k ⟨#[]⟩).size : Int)), true)
  else (if cntK kl k + 1 < cntK kl kl.length then a else b, false)
def colC (kl : List Int) (a b : Int) (ss : List ByteArray) (st : Int × Bool) : Nat → Int × Bool
  | 0 => st
  | k + 1 => stepC kl a b ss k (colC kl a b ss st k)
def endC (sep : Bool) (st : Int × Bool) : Int := if sep && st.2 then wrap64 (st.1 + 1) else st.1

theorem colC_forgets (kl : List Int) (a b : Int) (ss : List ByteArray) (st st' : Int × Bool) (j n : Nat) (hj : j < n) (hk : kl.getD j 0 ≠ 1) : colC kl a b ss st n = colC kl a b ss st' n := by
  induction n with
  | zero => omega
  | succ n ih =>
    by_cases e : j = n
    · subst e
      simp only [colC, stepC]
      rw [if_neg hk, if_neg hk]
    · simp only [colC]
      rw [ih (by omega)]

def HasNL (ks : List Int) (n : Nat) (e : Ending) (w w' : World) : Prop := ∃ r : Bool, e = .returned (.bool r) ∧ w = w' ∧ (r = true → ∃ j, j < n ∧ kindI (ks.getD j 0) ≠ 1)

set_option maxHeartbeats 800000 in
theorem hasnl_any (w : World) (a : Option Addr) (n ca : Nat) (ks : List Int) (ha : IsInts w a n ca ks) (hn : n ≤ 1048576) :
    Calls Try.prog 8 #[.slice a n ca] w fun e w' => HasNL ks n e w w' := by
  obtain ⟨hl, hlc, hcm, _, _, hr⟩ := ha
  have HL := Lib.hid hl
  have HR := Lib.hid hr
  clear hl hr hcm
  go_enter Try.func8, Try.ntmps8
  go_wp2_with fail
  go_loop [3] (fun i => ∃ k : Nat, k ≤ n ∧ i = .int .i64 k) (fun i => n - (intOf i).toNat)
  case atStart => exact ⟨0, Nat.zero_le _, rfl⟩
  case round =>
    obtain ⟨k, hk, rfl⟩ := hrel
    by_cases hlt : k < n
    · obtain ⟨b1, off1, rfl, hb1, hc1⟩ := HR.out.pos (by simp [HL.out]; omega)
      have x1 := int_at hc1 (k := k) (by rw [HL.out]; exact hlt)
      have EX : Hid (ks.getD k 0 = ks[k]'(by rw [HL.out]; exact hlt)) := by simp [Hid, List.getD, HL.out, hlt]
      generalize (ks[k]'(by rw [HL.out]; exact hlt)) = x at *
      clear hc1
      go_wp2_with fail
      refine (kind_any _ _).mono ?_
      rintro e w7 ⟨rfl, rfl⟩
      cases hkx : (kindI x != 1)
      · go_wp2_with fail
        go_round
        case rel => exact ⟨k + 1, by omega, by go_num⟩
        case measure => simp [intOf]; omega
      · go_wp2_with fail
        go_ret
        exact ⟨_, rfl, rfl, fun _ => ⟨k, hlt, by rw [EX.out]; simpa using hkx⟩⟩
    · go_wp2_with fail
      go_ret
      exact ⟨false, rfl, rfl, fun h => by cases h⟩

theorem grown_new {w w1 : World} {g h : Nat} (hg : w.grownBy w1 (some g)) (hh : w.heap.size ≤ h) (i : Nat) (v : Value) : w.grownBy (w1.setCell ⟨h, i, none⟩ v) (some g) :=
  ⟨hg.os, hg.tape, hg.output, Nat.le_trans hg.size (by simp [World.setCell]), fun b hb hne => (Below.heap_setCell w1 ⟨h, i, none⟩ v b (by simp; omega)).trans (hg.block b hb hne)⟩

/-- A FixIndentation whose column is c. -/
def fixA (c : Int) : Array Value := #[.int .i64 c, .int .i64 0, .int .i64 0, .int .i64 0, .int .i64 0, .bool false, .bool false, .bool false, .bool false, .bool false, .bool false, .bool false, .bool false]

/-- What lies at place k behind setIndents. -/
theorem after_fill {w : World} {g n : Nat} {ks bs is : List Int} {ss : List ByteArray} {es : List El} (h : Built w g ks bs is ss n es) (hks : ks.length = n) (a b : Int) (k : Nat) (hk : k < n) :
    ∃ com y ind, (setI es a b)[k]? = some ⟨com, kindI (ks.getD k 0), y, ind⟩ ∧ ComAt w g com (hasC (ks.getD k 0) (ss.getD k ⟨#[]⟩)) (ss.getD k ⟨#[]⟩) ∧
      (kindI (ks.getD k 0) ≠ 1 → ∀ st, stepC (ks.map kindI) a b ss k st = (ind, false)) ∧ (kindI (ks.getD k 0) = 1 → ∀ st, stepC (ks.map kindI) a b ss k st = (wrap64 ((if st.2 then wrap64 (st.1 + 1) else st.1) + ((ss.getD k ⟨#[]⟩).size : Int)), true)) := by
  obtain ⟨com, h1, h2⟩ := h.2 k hk
  have hset := setI_at es a b k
  rw [h1] at hset
  simp only [Option.map_some] at hset
  have hkl : kindsF es = ks.map kindI := by
    apply List.ext_getElem?
    intro j
    rcases Nat.lt_or_ge j n with hj | hj
    · obtain ⟨c, h3, _⟩ := h.2 j hj
      simp [kindsF, h3, List.getD, hks, hj]
    · rw [List.getElem?_eq_none (by simp [kindsF, h.1]; omega), List.getElem?_eq_none (by simp [hks]; omega)]
  have hgd : (ks.map kindI).getD k 0 = kindI (ks.getD k 0) := by simp [List.getD, hks, hk]
  rw [hkl] at hset
  by_cases hone : kindI (ks.getD k 0) = 1
  · refine ⟨com, bs.getD k 0, is.getD k 0, ?_, h2, fun h => absurd hone h, fun _ st => ?_⟩
    · rw [hset]
      simp only [upd, hone, if_true]
    · unfold stepC
      rw [hgd, if_pos hone]
  · refine ⟨com, bs.getD k 0, if cntK (ks.map kindI) k + 1 < cntK (ks.map kindI) (ks.map kindI).length then a else b, ?_, h2, fun _ st => ?_, fun h => absurd h hone⟩
    · rw [hset]
      simp only [upd]
      rw [if_neg hone]
    · unfold stepC
      rw [hgd, if_neg hone]

theorem Built.set_other {w : World} {g h : Nat} {ks bs is : List Int} {ss : List ByteArray} {k : Nat} {es : List El} {cs : Array Value} (hb : Built w g ks bs is ss k es) (hh : Blk w h 49 cs) (i : Nat) (v : Value) : Built (w.setCell ⟨h, i, none⟩ v) g ks bs is ss k es := by
  refine ⟨hb.1, fun j hj => ?_⟩
  obtain ⟨com, h1, h2⟩ := hb.2 j hj
  refine ⟨com, h1, ?_⟩
  revert h2
  cases hasC (ks.getD j 0) (ss.getD j ⟨#[]⟩) with
  | true =>
    rintro ⟨b, e, hg, hB⟩
    refine ⟨b, e, hg, hB.far ?_ _⟩
    intro hbh
    have hbh' : b = h := hbh
    subst hbh'
    unfold Blk at hB hh
    rw [hB] at hh
    injection hh with hh
    injection hh with _ h49 _
    exact absurd h49 (by decide)
  | false => exact id

theorem blk_ne {w : World} {a b : Nat} {cs ds : Array Value} {s t : TypeId} (ha : Blk w a s cs) (hb : Blk w b t ds) (hst : s ≠ t) : a ≠ b := by
  rintro rfl
  unfold Blk at ha hb
  rw [ha] at hb
  injection hb with hb
  injection hb with _ h _
  exact hst h

/-- What a round leaves. -/
def Rnd (w wr : World) (g h n : Nat) (ks bs is : List Int) (ss : List ByteArray) (es fs : List El) (c : Int) : Prop :=
  Blk wr h 49 (fixA c) ∧ Blk wr g 38 (cellsF fs).toArray ∧ Built wr g ks bs is ss n es ∧ w.grownBy wr (some g)
theorem Rnd.set {w wr : World} {g h n : Nat} {ks bs is : List Int} {ss : List ByteArray} {es fs : List El} {c : Int} (H : Rnd w wr g h n ks bs is ss es fs c) (hgh : g ≠ h) (hh : w.heap.size ≤ h) (v : Int) : Rnd w (wr.setCell ⟨h, 0, none⟩ (.int .i64 v)) g h n ks bs is ss es fs v :=
  ⟨H.1.set 0 _, H.2.1.far hgh _, H.2.2.1.set_other H.1 _ _, grown_new H.2.2.2 hh _ _⟩
theorem Rnd.alloc {w wr : World} {g h n : Nat} {ks bs is : List Int} {ss : List ByteArray} {es fs : List El} {c : Int} (H : Rnd w wr g h n ks bs is ss es fs c) (o : Obj) : Rnd w (wr.alloc o) g h n ks bs is ss es fs c :=
  ⟨H.1.alloc o, H.2.1.alloc o, H.2.2.1.under ((Below.refl wr.heap.size wr).alloc (Nat.le_refl _) o), Lib.grownBy_allocR H.2.2.2 o⟩
theorem Rnd.drew {w wr : World} {g h n : Nat} {ks bs is : List Int} {ss : List ByteArray} {es fs : List El} {c : Int} (H : Rnd w wr g h n ks bs is ss es fs c) : Rnd w wr.drew g h n ks bs is ss es fs c :=
  ⟨H.1.drew, H.2.1.drew, H.2.2.1.drew, ⟨H.2.2.2.os, H.2.2.2.tape, H.2.2.2.output, H.2.2.2.size, H.2.2.2.block⟩⟩

set_option maxRecDepth 100000 in
set_option maxHeartbeats 6400000 in
theorem zfill_any (w : World) (g n : Nat) (ks bs is : List Int) (ss : List ByteArray) (es : List El) (cr sep : Bool) (a b col : Int) (hn : n ≤ 1048576) (hks : ks.length = n) (hbu : Built w g ks bs is ss n es) (hB : Blk w g 38 (cellsF es).toArray) :
    Calls Try.prog 12 #[.slice (some ⟨g, 0, none⟩) n n, .bool cr, .bool sep, .int .i64 a, .int .i64 b, .int .i64 col] w fun e w' => e = .returned (.int .i64 (endC sep (colC (ks.map kindI) a b ss (col, cr) n))) ∧ w.grownBy w' (some g) := by
  have hg := hB.lt
  have HB := Lib.hid hB
  have HBU := Lib.hid hbu
  have HK := Lib.hid hks
  clear hB hbu hks
  go_enter Try.func12, Try.ntmps12
  go_wp2_with (first | (go_at_call 19; go_in) | fail)
  refine (setInd_any _ _ g n es a b HBU.out.1 hn HBU.out.coms (HB.out.alloc _)).mono ?_
  rintro e w2 ⟨rfl, k1, gr⟩
  have hgh : g ≠ w.heap.size := by omega
  have HF := Lib.hid ((show Blk (w.alloc (.cells (fixA col) 49)) w.heap.size 49 (fixA col) from Blk.new _ _ _).grown gr (by simp; omega))
  have HB := Lib.hid k1
  have HBU := Lib.hid ((HBU.out.under ((Below.refl w.heap.size w).alloc (Nat.le_refl _) _)).grown gr)
  have HGR := Lib.hid (Lib.grownBy_trans (World.grownBy_alloc w _ (some g)) gr)
  clear k1 gr
  go_wp2_with fail
  go_loopw [2, 21] (fun c i wr => ∃ k : Nat, k ≤ n ∧ i = .int .i64 k ∧ c = .bool (colC (ks.map kindI) a b ss (col, cr) k).2 ∧ Hid (Rnd w wr g w.heap.size n ks bs is ss es (setI es a b) (colC (ks.map kindI) a b ss (col, cr) k).1)) (fun _ i _ => n - (intOf i).toNat)
  case atStart => exact ⟨0, Nat.zero_le _, rfl, rfl, Lib.hid ⟨HF.out, HB.out, HBU.out, HGR.out⟩⟩
  case round =>
    clear HF HB HBU HGR
    obtain ⟨k, hk, rfl, rfl, HRN⟩ := hrel
    by_cases hlt : k < n
    · obtain ⟨com, y, ind, hset, hcom, hst0, hst1⟩ := after_fill HRN.out.2.2.1 HK.out a b k hlt
      obtain ⟨y0, y1, y2, y3⟩ := blk_at HRN.out.2.1 hset
      simp only at y0 y1 y2 y3
      have hkr : kindI (ks.getD k 0) = 0 ∨ kindI (ks.getD k 0) = 1 ∨ kindI (ks.getD k 0) = 2 := by unfold kindI; omega
      have hh1 : kindI (ks.getD k 0) = 1 → hasC (ks.getD k 0) (ss.getD k ⟨#[]⟩) = true := by intro h; unfold hasC; rw [h]; rfl
      have hsucc : colC (ks.map kindI) a b ss (col, cr) (k + 1) = stepC (ks.map kindI) a b ss k (colC (ks.map kindI) a b ss (col, cr) k) := rfl
      obtain ⟨ca', cl', cc', hsl⟩ := hcom.is_slice
      subst hsl
      have hgs := HRN.out.2.2.2.size
      have HF' := Lib.hid (HRN.out.1.alloc (.cells #[.slice ca' cl' cc', .int .i64 (kindI (ks.getD k 0)), .int .i64 y, .int .i64 ind] 38))
      have hlt' := HRN.out.1.lt
      have hcom' := hcom.keep (w' := wr.alloc (.cells #[.slice ca' cl' cc', .int .i64 (kindI (ks.getD k 0)), .int .i64 y, .int .i64 ind] 38)) fun b _ hl => ((Below.refl wr.heap.size wr).alloc (Nat.le_refl _) _).block b hl
      generalize kindI (ks.getD k 0) = K at *
      generalize colC (ks.map kindI) a b ss (col, cr) k = st at *
      obtain ⟨c, cw⟩ := st
      have f0 := HF'.out.cell 0
      have f1 := HF'.out.free 0
      simp only [fixA, List.getElem?_toArray, List.getElem?_cons_zero] at f0
      have HSU := Lib.hid hsucc
      clear hset hsucc HF'
      rcases hkr with rfl | rfl | rfl
      · have HST := Lib.hid (hst0 (by decide) (c, cw))
        clear hst0 hst1 hh1 hcom' hcom
        go_wp2_with fail
        go_roundw
        case rel => exact ⟨k + 1, by omega, by go_num, by rw [HSU.out, HST.out], Lib.hid (by rw [HSU.out, HST.out]; exact (HRN.out.set hgh (Nat.le_refl _) _).alloc _)⟩
        case measure => simp [intOf]; omega
      · have HST := Lib.hid (hst1 rfl (c, cw))
        rw [hh1 rfl] at hcom hcom'
        obtain ⟨bc, hco', hgb, hblc⟩ := hcom
        obtain ⟨bc2, hco2, hgb2, hblc2⟩ := hcom'
        injection hco' with e1 e2 e3
        subst e1
        subst e2
        subst e3
        injection hco2 with e1 e2 e3
        injection e1 with e1
        injection e1 with e1
        subst e1
        have c0 := hblc2.cell 0
        have c1 := hblc.cell 0
        have hbl := hblc.lt
        simp only [List.getElem?_toArray, List.getElem?_cons_zero] at c0 c1
        have hbh : bc ≠ w.heap.size := blk_ne hblc HRN.out.1 (by decide)
        have c2 := fun (v : Value) => ((hblc.far (p := ⟨w.heap.size, 0, none⟩) hbh v).alloc (.cells #[.slice (some ⟨bc, 0, none⟩) 1 1, .int .i64 1, .int .i64 y, .int .i64 ind] 38)).cell 0
        simp only [List.getElem?_toArray, List.getElem?_cons_zero] at c2
        clear hblc hblc2
        clear hst0 hst1 hh1 e2 e3
        generalize ss.getD k ⟨#[]⟩ = s at *
        cases cw
        · clear c2
          go_upto_region 14 with fail
          refine wp_region_tail 12 (by kernel_rfl) (by kernel_rfl) ?_
          simp only [List.take_succ_cons, List.take_zero, List.drop_succ_cons, List.drop_zero]
          repeat still_step
          refine wpStill_nil ?_
          go_wp2_with fail
          go_roundw
          case rel =>
            refine ⟨k + 1, by omega, by go_num, by rw [HSU.out, HST.out], Lib.hid ?_⟩
            rw [HSU.out, HST.out]
            exact ((HRN.out.set hgh (Nat.le_refl _) _).alloc _).drew
          case measure => simp [intOf]; omega
        · clear c0
          have c0 := c2 (.int .i64 (wrap64 (c + 1)))
          clear c2
          have f3 := ((HRN.out.set hgh (Nat.le_refl _) (wrap64 (c + 1))).alloc (.cells #[.slice (some ⟨bc, 0, none⟩) 1 1, .int .i64 1, .int .i64 y, .int .i64 ind] 38)).1.cell 0
          have f4 := ((HRN.out.set hgh (Nat.le_refl _) (wrap64 (c + 1))).alloc (.cells #[.slice (some ⟨bc, 0, none⟩) 1 1, .int .i64 1, .int .i64 y, .int .i64 ind] 38)).1.free 0
          simp only [fixA, List.getElem?_toArray, List.getElem?_cons_zero] at f3
          go_upto_region 14 with fail
          refine wp_region_tail 12 (by kernel_rfl) (by kernel_rfl) ?_
          simp only [List.take_succ_cons, List.take_zero, List.drop_succ_cons, List.drop_zero]
          repeat still_step
          refine wpStill_nil ?_
          go_wp2_with fail
          go_roundw
          case rel =>
            refine ⟨k + 1, by omega, by go_num, by rw [HSU.out, HST.out], Lib.hid ?_⟩
            rw [HSU.out, HST.out]
            first | exact (((HRN.out.set hgh (Nat.le_refl _) _).set hgh (Nat.le_refl _) _).alloc _).drew | exact ((HRN.out.set hgh (Nat.le_refl _) _).alloc _).drew
          case measure => simp [intOf]; omega
      · have HST := Lib.hid (hst0 (by decide) (c, cw))
        clear hst0 hst1 hh1 hcom' hcom
        go_wp2_with fail
        go_roundw
        case rel => exact ⟨k + 1, by omega, by go_num, by rw [HSU.out, HST.out], Lib.hid (by rw [HSU.out, HST.out]; exact (HRN.out.set hgh (Nat.le_refl _) _).alloc _)⟩
        case measure => simp [intOf]; omega
    · have hkn : k = n := by omega
      have HKN := Lib.hid hkn
      have f0 := HRN.out.1.cell 0
      have f1 := HRN.out.1.free 0
      simp only [fixA, List.getElem?_toArray, List.getElem?_cons_zero] at f0
      rw [hkn] at *
      generalize hst : colC (ks.map kindI) a b ss (col, cr) n = st at *
      have HST := Lib.hid hst
      clear hst
      obtain ⟨c, cw⟩ := st
      cases sep
      · go_wp2_with fail
        go_ret
        exact ⟨by rw [HST.out]; rfl, HRN.out.2.2.2⟩
      · cases cw
        · go_wp2_with fail
          go_ret
          exact ⟨by rw [HST.out]; rfl, HRN.out.2.2.2⟩
        · go_wp2_with fail
          go_ret
          exact ⟨by rw [HST.out]; rfl, grown_new HRN.out.2.2.2 (Nat.le_refl _) _ _⟩
end Go.Proofs.Ytkeiaonpgcbciaa
