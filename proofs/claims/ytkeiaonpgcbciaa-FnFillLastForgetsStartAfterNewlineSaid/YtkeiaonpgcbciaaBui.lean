/- zzHasComment and zzBuild. -/
import Derived.Test.YtkeiaonpgcbciaaBar
namespace Go.Proofs.Ytkeiaonpgcbciaa
open Go.RowKit
set_option linter.unusedVariables false

/-- Does an element carry a comment? -/
def hasC (x : Int) (s : ByteArray) : Bool := (kindI x != 0) || (!s.toList.isEmpty) || ((wrap64 (x.tdiv 3)).tmod 2 != 0)

set_option maxHeartbeats 800000 in
theorem has_any (w : World) (x : Int) (s : ByteArray) : Calls Try.prog 18 #[.int .i64 x, .int .i64 (kindI x), .string s] w fun e w' => e = .returned (.bool (hasC x s)) ∧ w = w' := by
  unfold hasC
  generalize kindI x = K
  cases h1 : (K != 0)
  · cases h2 : (!s.toList.isEmpty)
    · go_enter Try.func18, Try.ntmps18
      go_wp2
      go_ret
      exact ⟨by simp, rfl⟩
    · go_enter Try.func18, Try.ntmps18
      go_wp2
      go_ret
      exact ⟨by simp, rfl⟩
  · go_enter Try.func18, Try.ntmps18
    go_wp2
    go_ret
    exact ⟨by simp, rfl⟩

/-- The comment's slice: one string in a block of its own behind g, or nil. -/
def ComAt (w : World) (g : Nat) (com : Value) (has : Bool) (s : ByteArray) : Prop :=
  match has with
  | true => ∃ b, com = .slice (some ⟨b, 0, none⟩) 1 1 ∧ g < b ∧ Blk w b 9 #[.string s]
  | false => com = .slice none 0 0

theorem ComAt.is_slice {w : World} {g : Nat} {com : Value} {has : Bool} {s : ByteArray} (h : ComAt w g com has s) : ∃ a l c, com = .slice a l c := by
  cases has with
  | true => obtain ⟨b, h, _⟩ := h; exact ⟨_, _, _, h⟩
  | false => exact ⟨_, _, _, h⟩
theorem ComAt.keep {w w' : World} {g : Nat} {com : Value} {has : Bool} {s : ByteArray} (h : ComAt w g com has s) (hk : ∀ b, g < b → b < w.heap.size → w'.heap[b]? = w.heap[b]?) : ComAt w' g com has s := by
  cases has with
  | true => obtain ⟨b, h1, h2, h3⟩ := h; exact ⟨b, h1, h2, (hk b h2 h3.lt).trans h3⟩
  | false => exact h

/-- The elements es are what zzBuild makes of the first k places; their comments lie behind block g. -/
def Built (w : World) (g : Nat) (ks bs is : List Int) (ss : List ByteArray) (k : Nat) (es : List El) : Prop :=
  es.length = k ∧ ∀ i, i < k → ∃ com, es[i]? = some ⟨com, kindI (ks.getD i 0), bs.getD i 0, is.getD i 0⟩ ∧ ComAt w g com (hasC (ks.getD i 0) (ss.getD i ⟨#[]⟩)) (ss.getD i ⟨#[]⟩)

theorem Built.keep {w w' : World} {g : Nat} {ks bs is : List Int} {ss : List ByteArray} {k : Nat} {es : List El} (h : Built w g ks bs is ss k es) (hk : ∀ b, g < b → b < w.heap.size → w'.heap[b]? = w.heap[b]?) : Built w' g ks bs is ss k es :=
  ⟨h.1, fun i hi => by obtain ⟨com, h1, h2⟩ := h.2 i hi; exact ⟨com, h1, h2.keep hk⟩⟩
theorem Built.under {w w' : World} {g : Nat} {ks bs is : List Int} {ss : List ByteArray} {k : Nat} {es : List El} (h : Built w g ks bs is ss k es) (hb : Below w.heap.size w w') : Built w' g ks bs is ss k es :=
  h.keep fun b _ hl => hb.block b hl
theorem Built.grown {w w' : World} {g : Nat} {ks bs is : List Int} {ss : List ByteArray} {k : Nat} {es : List El} (h : Built w g ks bs is ss k es) (hb : w.grownBy w' (some g)) : Built w' g ks bs is ss k es :=
  h.keep fun b hg hl => hb.block b hl (by simp; omega)
theorem Built.coms {w : World} {g : Nat} {ks bs is : List Int} {ss : List ByteArray} {k : Nat} {es : List El} (h : Built w g ks bs is ss k es) : Coms es := by
  intro e he
  obtain ⟨i, hi⟩ := List.getElem?_of_mem he
  have hl := (List.getElem?_eq_some_iff.1 hi).1
  obtain ⟨com, h1, h2⟩ := h.2 i (by have := h.1; omega)
  rw [h1] at hi
  obtain rfl := Option.some.inj hi
  exact h2.is_slice
theorem Built.snoc {w : World} {g : Nat} {ks bs is : List Int} {ss : List ByteArray} {k : Nat} {es : List El} (h : Built w g ks bs is ss k es) (com : Value) (hc : ComAt w g com (hasC (ks.getD k 0) (ss.getD k ⟨#[]⟩)) (ss.getD k ⟨#[]⟩)) :
    Built w g ks bs is ss (k + 1) (es ++ [⟨com, kindI (ks.getD k 0), bs.getD k 0, is.getD k 0⟩]) := by
  refine ⟨by simp [h.1], fun i hi => ?_⟩
  by_cases hik : i < k
  · obtain ⟨c, h1, h2⟩ := h.2 i hik
    exact ⟨c, by rw [List.getElem?_append_left (by have := h.1; omega)]; exact h1, h2⟩
  · obtain rfl : i = k := by omega
    exact ⟨com, by rw [List.getElem?_append_right (by have := h.1; omega), h.1, Nat.sub_self]; rfl, hc⟩

theorem Built.drew {w : World} {g : Nat} {ks bs is : List Int} {ss : List ByteArray} {k : Nat} {es : List El} (h : Built w g ks bs is ss k es) : Built w.drew g ks bs is ss k es := h.keep fun _ _ _ => rfl

/-- The four cells of element k overwritten. -/
def put4 (w : World) (g k : Nat) (u0 : Value) (u1 u2 u3 : Int) : World :=
  (((w.setCell ⟨g, k * 4, none⟩ u0).setCell ⟨g, k * 4 + 1, none⟩ (.int .i64 u1)).setCell ⟨g, k * 4 + 2, none⟩ (.int .i64 u2)).setCell ⟨g, k * 4 + 3, none⟩ (.int .i64 u3)
theorem put4_grown (w : World) (g k : Nat) (u0 : Value) (u1 u2 u3 : Int) : w.grownBy (put4 w g k u0 u1 u2 u3) (some g) :=
  Lib.grownBy_setB (Lib.grownBy_setB (Lib.grownBy_setB (Lib.grownBy_setB (World.grownBy.refl w _) _ _) _ _) _ _) _ _
theorem put4_blk {w : World} {g n k : Nat} {es : List El} (h : Blk w g 38 (cellsF (padF es n)).toArray) (hl : es.length = k) (hk : k < n) (u0 : Value) (u1 u2 u3 : Int) : Blk (put4 w g k u0 u1 u2 u3) g 38 (cellsF (padF (es ++ [⟨u0, u1, u2, u3⟩]) n)).toArray := by
  have h5 := (((h.set (k * 4) u0).set (k * 4 + 1) (.int .i64 u1)).set (k * 4 + 2) (.int .i64 u2)).set (k * 4 + 3) (.int .i64 u3)
  rw [cellsF_set4 _ k _ _ _ _ _ (padF_at _ n k hl hk), padF_set _ n k _ hl hk] at h5
  exact h5

set_option maxRecDepth 100000 in
set_option maxHeartbeats 6400000 in
theorem build_any (w : World) (a b c d : Option Addr) (n ca cb cc cd : Nat) (ks bs is : List Int) (ss : List ByteArray) (ha : IsInts w a n ca ks) (hb : IsInts w b n cb bs) (hc : IsInts w c n cc is) (hd : IsStrs w d n cd ss) (hle : n ≤ 1048576) :
    Calls Try.prog 11 #[.slice a n ca, .slice b n cb, .slice c n cc, .slice d n cd] w fun e w' => e = .returned (.slice (some ⟨w.heap.size, 0, none⟩) n n) ∧ (∃ es, Built w' w.heap.size ks bs is ss n es ∧ Blk w' w.heap.size 38 (cellsF es).toArray) ∧ Below w.heap.size w w' := by
  obtain ⟨hl, hlc, hcm, _, _, hr⟩ := ha
  obtain ⟨hl2, hlc2, hcm2, _, _, hr2⟩ := hb
  obtain ⟨hl3, hlc3, hcm3, _, _, hr3⟩ := hc
  obtain ⟨hl4, hlc4, hcm4, _, _, hr4⟩ := hd
  obtain ⟨i0, hi, hz0, hz1, hz2⟩ := info_parts Try.inf38
  have hmk := fun W => run_make_n (P := Try.prog) 30 38 i0 _ Try.underlying30 hi hz0 .i64 .i64 n n (Nat.le_refl _) (by rw [hz2]; omega) (by omega) W
  rw [hz1, cellsF_zero] at hmk
  have HL := Lib.hid hl
  have HL2 := Lib.hid hl2
  have HL3 := Lib.hid hl3
  have HL4 := Lib.hid hl4
  have HR := Lib.hid hr
  have HR2 := Lib.hid hr2
  have HR3 := Lib.hid hr3
  have HR4 := Lib.hid hr4
  clear hi hz0 hz1 hz2 hl hl2 hl3 hl4 hr hr2 hr3 hr4 hcm hcm2 hcm3 hcm4
  go_enter Try.func11, Try.ntmps11
  go_wp2_with fail
  go_loopw [11] (fun i wr => ∃ k : Nat, k ≤ n ∧ i = .int .i64 k ∧ Hid (∃ es, Built wr w.heap.size ks bs is ss k es ∧ Blk wr w.heap.size 38 (cellsF (padF es n)).toArray) ∧ Below w.heap.size w wr) (fun i _ => n - (intOf i).toNat)
  case atStart => exact ⟨0, Nat.zero_le _, rfl, Lib.hid ⟨[], ⟨rfl, fun i hi => absurd hi (by omega)⟩, Blk.new _ _ _⟩, (Below.refl _ _).alloc (Nat.le_refl _) _⟩
  case round =>
    obtain ⟨k, hk, rfl, hblk, hbel⟩ := hrel
    obtain ⟨es, hbu, hblk⟩ := hblk.out
    have HBU := Lib.hid hbu
    have HBK := Lib.hid hblk
    have hsz := hblk.lt
    clear hbu hblk
    by_cases hlt : k < n
    · obtain ⟨b1, off1, rfl, hb1, hc1⟩ := (HR.out.below hbel).pos (by simp [HL.out]; omega)
      obtain ⟨b2, off2, rfl, hb2, hc2⟩ := (HR2.out.below hbel).pos (by simp [HL2.out]; omega)
      obtain ⟨b3, off3, rfl, hb3, hc3⟩ := (HR3.out.below hbel).pos (by simp [HL3.out]; omega)
      obtain ⟨b4, off4, rfl, hb4, hc4⟩ := (HR4.out.below hbel).pos (by simp [HL4.out]; omega)
      have x1 := int_at hc1 (k := k) (by rw [HL.out]; exact hlt)
      have x2 := int_at hc2 (k := k) (by rw [HL2.out]; exact hlt)
      have x3 := int_at hc3 (k := k) (by rw [HL3.out]; exact hlt)
      have x4 := str_at hc4 (k := k) (by rw [HL4.out]; exact hlt)
      have EX : Hid (ks.getD k 0 = ks[k]'(by rw [HL.out]; exact hlt) ∧ bs.getD k 0 = bs[k]'(by rw [HL2.out]; exact hlt) ∧ is.getD k 0 = is[k]'(by rw [HL3.out]; exact hlt) ∧ ss.getD k ⟨#[]⟩ = ss[k]'(by rw [HL4.out]; exact hlt)) := by
        refine ⟨?_, ?_, ?_, ?_⟩
        · simp [List.getD, HL.out, hlt]
        · simp [List.getD, HL2.out, hlt]
        · simp [List.getD, HL3.out, hlt]
        · simp [List.getD, HL4.out, hlt]
      generalize (ks[k]'(by rw [HL.out]; exact hlt)) = x at *
      generalize (bs[k]'(by rw [HL2.out]; exact hlt)) = y at *
      generalize (is[k]'(by rw [HL3.out]; exact hlt)) = z at *
      generalize (ss[k]'(by rw [HL4.out]; exact hlt)) = s at *
      obtain ⟨y0, y1, y2, y3⟩ := blk_at HBK.out (padF_at _ n k HBU.out.1 hlt)
      have f0 := HBK.out.free (k * 4)
      have f1 := HBK.out.free (k * 4 + 1)
      have f2 := HBK.out.free (k * 4 + 2)
      have f3 := HBK.out.free (k * 4 + 3)
      clear hc1 hc2 hc3 hc4
      go_wp2_with fail
      refine (kind_any _ _).mono ?_
      rintro e w1 ⟨rfl, rfl⟩
      go_wp2_with fail
      refine wp_region_tail 9 (by kernel_rfl) (by kernel_rfl) ?_
      simp only [List.take_succ_cons, List.take_zero, List.drop_succ_cons, List.drop_zero]
      repeat still_step
      refine wpStill_nil ?_
      go_wp2_with fail
      refine (has_any _ _ _).mono ?_
      rintro e w1 ⟨rfl, rfl⟩
      cases hh : hasC x s
      · have SN := Lib.hid (HBU.out.snoc)
        rw [show ks.getD k 0 = x from EX.out.1, show bs.getD k 0 = y from EX.out.2.1, show is.getD k 0 = z from EX.out.2.2.1, show ss.getD k ⟨#[]⟩ = s from EX.out.2.2.2, hh] at SN
        have SN2 := Lib.hid (SN.out (.slice none 0 0) rfl)
        clear SN hh
        go_wp2_with fail
        refine wp_region_tail 14 (by kernel_rfl) (by kernel_rfl) ?_
        simp only [List.take_succ_cons, List.take_zero, List.drop_succ_cons, List.drop_zero]
        repeat still_step
        refine wpStill_nil ?_
        go_wp2
        go_roundw
        case rel =>
          refine ⟨k + 1, by omega, by go_num, Lib.hid ⟨_, (SN2.out.grown (put4_grown wr w.heap.size k (.slice none 0 0) (kindI x) y z)).drew.drew, (put4_blk HBK.out HBU.out.1 hlt _ _ _ _).drew.drew⟩, (hbel.grown (put4_grown wr w.heap.size k (.slice none 0 0) (kindI x) y z) hbel.size (by intro q hq; injection hq with hq; omega)).drew.drew⟩
        case measure => simp [intOf]; omega
      · have HBU2 := Lib.hid (HBU.out.under ((Below.refl wr.heap.size wr).alloc (Nat.le_refl _) (.cells #[.string s] 9)))
        have HBK2 := Lib.hid (HBK.out.alloc (.cells #[.string s] 9))
        have HBE2 := Lib.hid (hbel.alloc hbel.size (.cells #[.string s] 9))
        have HHS := Lib.hid hh
        have HNB := Lib.hid (Blk.new wr 9 #[.string s])
        have BA := (Below.refl wr.heap.size wr).alloc (Nat.le_refl _) (.cells #[.string s] 9)
        have x2' := (BA.cell (p := ⟨b2, off2 + k, none⟩) (by simp; omega)).trans x2
        have x3' := (BA.cell (p := ⟨b3, off3 + k, none⟩) (by simp; omega)).trans x3
        obtain ⟨y0', y1', y2', y3'⟩ := blk_at HBK2.out (padF_at _ n k HBU.out.1 hlt)
        have f0' := HBK2.out.free (k * 4)
        have f1' := HBK2.out.free (k * 4 + 1)
        have f2' := HBK2.out.free (k * 4 + 2)
        have f3' := HBK2.out.free (k * 4 + 3)
        have hsz2 : wr.heap.size < (wr.alloc (.cells #[.string s] 9)).heap.size := by simp
        clear hh BA
        go_wp2_with fail
        clear x1 x2 x3 x4 y0 y1 y2 y3 f0 f1 f2 f3
        generalize wr.alloc (.cells #[.string s] 9) = w9 at *
        have SN := Lib.hid (HBU2.out.snoc)
        rw [show ks.getD k 0 = x from EX.out.1, show bs.getD k 0 = y from EX.out.2.1, show is.getD k 0 = z from EX.out.2.2.1, show ss.getD k ⟨#[]⟩ = s from EX.out.2.2.2, HHS.out] at SN
        have SN2 := Lib.hid (SN.out (.slice (some ⟨wr.heap.size, 0, none⟩) 1 1) ⟨_, rfl, hsz, HNB.out⟩)
        clear SN
        refine wp_region_tail 14 (by kernel_rfl) (by kernel_rfl) ?_
        simp only [List.take_succ_cons, List.take_zero, List.drop_succ_cons, List.drop_zero]
        repeat still_step
        refine wpStill_nil ?_
        go_wp2
        go_roundw
        case rel =>
          refine ⟨k + 1, by omega, by go_num, Lib.hid ⟨_, (SN2.out.grown (put4_grown w9 w.heap.size k (.slice (some ⟨wr.heap.size, 0, none⟩) 1 1) (kindI x) y z)).drew.drew, (put4_blk HBK2.out HBU.out.1 hlt _ _ _ _).drew.drew⟩, (HBE2.out.grown (put4_grown w9 w.heap.size k (.slice (some ⟨wr.heap.size, 0, none⟩) 1 1) (kindI x) y z) HBE2.out.size (by intro q hq; injection hq with hq; omega)).drew.drew⟩
        case measure => simp [intOf]; omega
    · have hkn : k = n := by omega
      subst hkn
      have HF : Hid (padF es k = es) := by
        unfold Hid
        have := padF_full es
        rwa [HBU.out.1] at this
      go_wp2_with fail
      go_ret
      refine ⟨rfl, ⟨es, HBU.out, ?_⟩, hbel⟩
      have := HBK.out
      rw [HF.out] at this
      exact this
end Go.Proofs.Ytkeiaonpgcbciaa
