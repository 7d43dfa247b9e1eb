/- zzEndsClean, zzHasA, zzPrefixSame, zzSlotOK. -/
import Derived.Test.YtlaghkppjdphnaaFmtPaf
namespace Go.Proofs.YtlaghkppjdphnaaFmt
open Go.RowKit
set_option linter.unusedVariables false

theorem wp_region_all {P : Program} {id : Nat} {Q : Exit → Act → World → Prop} {a : Act} {w : World} {l : List Oper} (hm : P.follows .mixedOrders = true) (hB : Region.lexB .any l.toArray = true)
    (h : wpStill P l.toArray w.drew (fun a' => Q .normal a' w.drew) l a) : (Code.region id l.toArray true).wp P Q a w := wp_region_still_lit hm hB h
def Yes (w : World) (e : Ending) (w' : World) : Prop := e = .returned (.bool true) ∧ Below w.heap.size w w'
/-- A fodder's slice that reads es. -/
def FodR (w : World) (v : Value) (es : List LE) : Prop := ∃ f, FodV w (fun b => b < w.heap.size) v f ∧ f.getD [] = es
theorem FodR.open {w : World} {v : Value} {es : List LE} (h : FodR w v es) : ∃ a c, v = .slice a es.length c ∧ es.length ≤ 16777216 ∧ FodIs w (fun b => b < w.heap.size) a es := by
  obtain ⟨f, h1, rfl⟩ := h
  obtain ⟨a, c, h3, h4, h5, _⟩ := h1.open
  exact ⟨a, c, h3, h4, h5⟩
theorem FodR.below {w w' : World} {v : Value} {es : List LE} (h : FodR w v es) (hb : Below w.heap.size w w') : FodR w' v es := by
  obtain ⟨f, h1, h2⟩ := h
  exact ⟨f, (h1.keep (Agree.of_below hb fun b h => h)).sub fun b h => Nat.lt_of_lt_of_le h hb.size, h2⟩
theorem FodN.fodR {w : World} {X : Nat → Prop} {v : Value} {es : List LE} (h : FodN w X v es) : FodR w v es := by
  obtain ⟨f, h1, h2, _⟩ := h
  exact ⟨f, h1.sub fun b h => h.1, h2⟩

theorem isClean_map (zs : List QE) (z : QE) (h : zs[zs.length - 1]? = some z) : isClean (zs.map QE.le) = (z.kind != 1) := by
  rw [isClean_at (zs.map QE.le) z.le (by rw [List.length_map, List.getElem?_map, h]; rfl)]
  rfl
theorem ends38 (w : World) (a : Option Addr) (n c : Nat) (zs : List QE) (h : IsQs w a n c zs) : Calls Tryf.prog 38 #[.slice a n c] w fun e w' => e = .returned (.bool (isClean (zs.map QE.le))) ∧ w = w' := by
  have m0 : n ≤ 9223372036854775807 := by have := h.2.1; have := h.2.2.1; unfold maxLen at this; omega
  by_cases h0 : n = 0
  · subst h0
    obtain rfl : zs = [] := List.length_eq_zero_iff.1 h.1
    rw [show isClean (([] : List QE).map QE.le) = false from rfl]
    clear h
    go_enter Tryf.func38, Tryf.ntmps38
    go_wp2
    go_ret
    exact ⟨rfl, rfl⟩
  · have hpos : 0 < n := by omega
    obtain ⟨z, hz⟩ : ∃ z, zs[n - 1]? = some z := ⟨zs[n - 1]'(by rw [h.1]; omega), by simp⟩
    obtain ⟨b, off, ha, hb, x0, _, _, _⟩ := IsQs.at h.2.2.2.2 hz
    subst ha
    rw [isClean_map zs z (by rw [h.1]; exact hz)]
    have hi : ((n : Int) - 1) = ((n - 1 : Nat) : Int) := by omega
    have h1 : (0 : Int) < n := by omega
    have h2 : (n - 1 : Nat) < n := by omega
    clear h hz
    obtain ⟨kd, bl, ind, li⟩ := z
    simp only at x0
    by_cases hk : kd = 1
    · subst hk
      go_enter Tryf.func38, Tryf.ntmps38
      go_wp2
      go_ret
      exact ⟨rfl, rfl⟩
    · have hk1 : (kd == 1) = false := by simpa using hk
      have hk2 : (kd != 1) = true := by simpa using hk
      rw [hk2]
      go_enter Tryf.func38, Tryf.ntmps38
      go_wp2
      go_ret
      exact ⟨rfl, rfl⟩

theorem hasA17 (w : World) (v : Value) (es : List LE) (h : FodR w v es) : Calls Tryf.prog 17 #[v] w fun e w' => e = .returned (.bool (hasL es)) ∧ w = w' := by
  obtain ⟨a, c, rfl, hle, hx⟩ := h.open
  generalize hn : es.length = n at *
  have HN := Lib.hid hn
  have HX := Lib.hid hx
  clear h hn hx
  obtain ⟨r, hr⟩ : ∃ r, r = hasL es := ⟨_, rfl⟩
  rw [← hr]
  have HR := Lib.hid hr
  clear hr
  go_enter Tryf.func17, Tryf.ntmps17
  go_wp2
  go_loop [3] (fun i => ∃ k : Nat, k ≤ n ∧ i = .int .i64 k ∧ Hid (∀ (q : Nat) (z : LE), q < k → es[q]? = some z → z.kind = 1)) (fun i => n - (intOf i).toNat)
  case atStart => exact ⟨0, Nat.zero_le _, rfl, Lib.hid fun q z h => absurd h (Nat.not_lt_zero _)⟩
  case round =>
    obtain ⟨k, hk, rfl, HQ⟩ := hrel
    by_cases hlt : k < n
    · obtain ⟨z, hz⟩ : ∃ z, es[k]? = some z := ⟨es[k]'(by rw [HN.out]; exact hlt), by simp⟩
      obtain ⟨b, off, com, ha, hb, hcm, x0, x1, x2, x3⟩ := HX.out.at hz
      subst ha
      have HZ := Lib.hid hz
      clear hz hcm x0 x2 x3
      by_cases hk1 : z.kind = 1
      · rw [hk1] at x1
        have HK := Lib.hid hk1
        clear hk1
        go_wp2
        go_round
        case rel =>
          refine ⟨k + 1, by omega, by go_num, Lib.hid fun q y hq hy => ?_⟩
          rcases Nat.lt_or_ge q k with h | h
          · exact HQ.out q y h hy
          · obtain rfl : q = k := by omega
            rw [HZ.out] at hy
            obtain rfl := Option.some.inj hy
            exact HK.out
        case measure => simp [intOf]; omega
      · have hrt : r = true := by
          rw [HR.out]
          exact List.any_eq_true.2 ⟨z, List.mem_of_getElem? HZ.out, by simpa using hk1⟩
        subst hrt
        have hk2 : (z.kind == 1) = false := by simpa using hk1
        have hk3 : (z.kind != 1) = true := by simpa using hk1
        go_wp2
        go_ret
        exact ⟨rfl, rfl⟩
    · obtain rfl : k = n := by omega
      have hrf : r = false := by
        rw [HR.out]
        refine List.any_eq_false.2 fun z hz => ?_
        obtain ⟨q, hq⟩ := List.getElem?_of_mem hz
        have := HQ.out q z (by have := (List.getElem?_eq_some_iff.1 hq).1; have := HN.out; omega) hq
        simp [this]
      subst hrf
      go_wp2
      go_ret
      exact ⟨rfl, rfl⟩

set_option maxRecDepth 100000 in
set_option maxHeartbeats 3200000 in
theorem pref39 (w : World) (v : Value) (es : List LE) (a : Option Addr) (n c : Nat) (zs : List QE) (hg : FodR w v es) (h : IsQs w a n c zs) (hok : ∀ z ∈ zs, OkQ z) (hle : zs.length ≤ es.length) (hpre : ∀ (i : Nat) (z : QE), zs[i]? = some z → es[i]? = some z.le) :
    Calls Tryf.prog 39 #[v, .slice a n c] w (Yes w) := by
  have m0 : n ≤ 9223372036854775807 := by have := h.2.1; have := h.2.2.1; unfold maxLen at this; omega
  obtain ⟨ga, gc, rfl, hgl, hgx⟩ := hg.open
  have hnl : n ≤ es.length := by rw [← h.1]; exact hle
  generalize es.length = m at *
  have HG := Lib.hid hgx
  have H := Lib.hid h
  have HOK := Lib.hid hok
  have HPRE := Lib.hid hpre
  clear hg hgx h hok hpre hle
  have d0 : decide ((m : Int) < (n : Int)) = false := by simp; omega
  have d1 : decide (m < n) = false := by simp; omega
  unfold Yes
  go_enter Tryf.func39, Tryf.ntmps39
  go_wp2_with fail
  go_loopw [5] (fun i wr => ∃ k : Nat, k ≤ n ∧ i = .int .i64 k ∧ Hid (Below w.heap.size w wr)) (fun i _ => n - (intOf i).toNat)
  case atStart => exact ⟨0, Nat.zero_le _, rfl, Lib.hid (Below.refl _ _)⟩
  case round =>
    obtain ⟨k, hk, rfl, hbel⟩ := hrel
    obtain ⟨wo, hwo⟩ : ∃ wo, wo = wr := ⟨_, rfl⟩
    subst hwo
    by_cases hlt : k < n
    · obtain ⟨z, hz⟩ : ∃ z, zs[k]? = some z := ⟨zs[k]'(by rw [H.out.1]; exact hlt), by simp⟩
      have he := HPRE.out k z hz
      have hag : Agree (fun b => b < w.heap.size) w wo := Agree.of_below hbel.out fun b h => h
      obtain ⟨b1, o1, com, e1, hb1, hcm, x0, x1, x2, x3⟩ := (HG.out.keep hag).at he
      obtain ⟨b2, o2, e2, hb2, y0, y1, y2, y3⟩ := IsQs.at (H.out.2.2.2.2.below hbel.out) hz
      subst e1 e2
      have hzk := HOK.out z (List.mem_of_getElem? hz)
      have hkm : k < m := by omega
      have hb1w : b1 < wo.heap.size := Nat.lt_of_lt_of_le hb1 hbel.out.size
      have hb2w : b2 < wo.heap.size := Nat.lt_of_lt_of_le hb2 hbel.out.size
      clear hz he hag
      obtain ⟨kd, bl, ind, li⟩ := z
      unfold OkQ at hzk
      simp only [QE.le] at x0 x1 x2 x3 y0 y1 y2 y3 hcm hzk
      obtain ⟨l, rfl⟩ : ∃ l : Nat, li = l := ⟨li.toNat, by omega⟩
      obtain ⟨cx, cp, rfl, hcl, hcr⟩ := hcm
      simp only [Int.toNat_natCast, List.length_replicate] at x0 hcl hcr
      have hkd : 0 ≤ kd ∧ kd ≤ 2 := by omega
      have K33 := Lib.hid (fun W => kind33 kd hkd W)
      have HCR := Lib.hid hcr
      have B2 := Lib.hid ((hbel.out.alloc hbel.out.size (.cells #[.slice (some cx) l cp, .int .i64 kd, .int .i64 bl, .int .i64 ind] 91)).alloc (by have := hbel.out.size; simp; omega) (.cells #[.int .i64 kd, .int .i64 bl, .int .i64 ind, .int .i64 l] 85))
      have BX := Lib.hid ((Blk.new wo 91 #[.slice (some cx) l cp, .int .i64 kd, .int .i64 bl, .int .i64 ind]).alloc (.cells #[.int .i64 kd, .int .i64 bl, .int .i64 ind, .int .i64 l] 85))
      have hwb : w.heap.size ≤ wo.heap.size := hbel.out.size
      clear hzk hcr
      go_wp2_with fail
      refine wp_region_all (by kernel_rfl) (by kernel_rfl) ?_
      repeat still_step
      still_call ((K33.out _).mono fun e w1 h => ⟨h.1, h.2.symm⟩)
      repeat still_step
      refine wpStill_nil ?_
      generalize hW : (wo.alloc (.cells #[.slice (some cx) l cp, .int .i64 kd, .int .i64 bl, .int .i64 ind] 91)).alloc (.cells #[.int .i64 kd, .int .i64 bl, .int .i64 ind, .int .i64 l] 85) = W at *
      have BXW : Hid (Blk W wo.heap.size 91 #[.slice (some cx) l cp, .int .i64 kd, .int .i64 bl, .int .i64 ind]) := BX
      have hwW : w.heap.size ≤ W.heap.size := B2.out.size
      clear hW x0 x1 x2 x3 y0 y1 y2 y3
      have z0 := BXW.out.cell 0
      simp at z0
      have zl := BXW.out.lt
      go_wp2_with fail
      go_loopw [8] (fun i wr => ∃ j : Nat, j ≤ l ∧ i = .int .i64 j ∧ Hid (Below W.heap.size W wr)) (fun i _ => l - (intOf i).toNat)
      case atStart => exact ⟨0, Nat.zero_le _, rfl, Lib.hid (Below.refl _ _).drew⟩
      case round =>
        obtain ⟨j, hj, rfl, hbl2⟩ := hrel
        have hbx : Blk wr wo.heap.size 91 #[.slice (some cx) l cp, .int .i64 kd, .int .i64 bl, .int .i64 ind] := (hbl2.out.block _ zl).trans BXW.out
        have c0 := hbx.cell 0
        simp at c0
        have cl := hbx.lt
        clear hbx
        by_cases hjt : j < l
        · obtain ⟨b3, o3, e3, hb3, hc3⟩ := (HCR.out).pos (by simp; omega)
          obtain rfl : cx = _ := Option.some.inj e3
          have hb3w : b3 < w.heap.size := hb3
          have hw3 : w.heap.size ≤ wr.heap.size := Nat.le_trans hwW hbl2.out.size
          have hb3r : b3 < wr.heap.size := by omega
          have u0 : wr.cell? ⟨b3, o3 + j, none⟩ = some (.string ⟨#[35, 32, 99]⟩) := (hbl2.out.cell (p := ⟨b3, o3 + j, none⟩) (Nat.lt_of_lt_of_le hb3w hwW)).trans ((B2.out.cell (p := ⟨b3, o3 + j, none⟩) hb3w).trans ((hbel.out.cell (p := ⟨b3, o3 + j, none⟩) hb3w).symm.trans (hc3 j _ (by simp [hjt]))))
          clear hc3
          go_wp2
          go_roundw
          case rel => exact ⟨j + 1, by omega, by go_num, hbl2⟩
          case measure => simp [intOf]; omega
        · obtain rfl : j = l := by omega
          have HBN := Lib.hid (B2.out.trans (hbl2.out.mono hwW))
          go_wp2_with fail
          go_roundw
          case rel => exact ⟨k + 1, by omega, by go_num, HBN⟩
          case measure => simp [intOf]; omega
    · obtain rfl : k = n := by omega
      go_wp2_with fail
      go_ret
      exact ⟨rfl, hbel.out⟩
end Go.Proofs.YtlaghkppjdphnaaFmt
