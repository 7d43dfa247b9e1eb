/- samePairs; hasRepeatedVariable, hasRepeatedKey. -/
import Derived.Test.YtlbiknodipcnbaaSrt
namespace Go.Proofs.Ytlbiknodipcnbaa
open Go.RowKit
set_option linter.unusedVariables false

theorem row2 {w : World} {g n k : Nat} {l : List PE} (h : Blk w g 28 (rowsP PE.cells zP l n).flatten.toArray) (hl : l.length = k) (hk : k < n) :
    w.cell? ⟨g, k * 2, none⟩ = some (.string ⟨#[]⟩) ∧ w.cell? ⟨g, k * 2 + 1, none⟩ = some (.string ⟨#[]⟩) ∧ w.frozen? ⟨g, k * 2, none⟩ = false ∧ w.frozen? ⟨g, k * 2 + 1, none⟩ = false := by
  refine ⟨?_, ?_, h.free _, h.free _⟩
  · rw [h.cell, List.getElem?_toArray, ← Nat.add_zero (k * 2), flatten_at 2 _ (rowsP_len PE.cells zP 2 (fun _ => rfl) rfl l n) k 0 zP (rowsP_at PE.cells zP l n k hl hk) (by omega)]
    rfl
  · rw [h.cell, List.getElem?_toArray, flatten_at 2 _ (rowsP_len PE.cells zP 2 (fun _ => rfl) rfl l n) k 1 zP (rowsP_at PE.cells zP l n k hl hk) (by omega)]
    rfl
theorem row2_set {w : World} {g n k : Nat} {l : List PE} (h : Blk w g 28 (rowsP PE.cells zP l n).flatten.toArray) (hl : l.length = k) (hk : k < n) (u0 u1 : Value) (p : PE) (hp : [u0, u1] = p.cells) :
    Blk ((w.setCell ⟨g, k * 2, none⟩ u0).setCell ⟨g, k * 2 + 1, none⟩ u1) g 28 (rowsP PE.cells zP (l ++ [p]) n).flatten.toArray := by
  have := (h.set (k * 2) u0).set (k * 2 + 1) u1
  have hr := rowsP_at PE.cells zP l n k hl hk
  have hll := rowsP_len PE.cells zP 2 (fun _ => rfl) rfl l n
  have e1 := flatten_set 2 _ hll k 0 zP u0 hr (by omega)
  rw [Nat.add_zero] at e1
  have hkl : k < (rowsP PE.cells zP l n).length := (List.getElem?_eq_some_iff.1 hr).1
  have hl2 : ∀ r ∈ (rowsP PE.cells zP l n).set k (zP.set 0 u0), r.length = 2 := fun r hr => by
    rcases List.mem_or_eq_of_mem_set hr with h | h
    · exact hll r h
    · rw [h]; rfl
  have e2 := flatten_set 2 _ hl2 k 1 (zP.set 0 u0) u1 (by simp [hkl]) (by omega)
  rw [List.set_set, show (zP.set 0 u0).set 1 u1 = p.cells from hp, rowsP_set PE.cells zP l n k p hl hk] at e2
  rw [List.setIfInBounds_toArray, List.setIfInBounds_toArray, e1, e2] at this
  exact this
def RepB (w : World) (p : Prop) (e : Ending) (w' : World) : Prop := ∃ r : Bool, e = .returned (.bool r) ∧ Below w.heap.size w w' ∧ (p ↔ r = false)
def Yes (w : World) (e : Ending) (w' : World) : Prop := e = .returned (.bool true) ∧ Below w.heap.size w w'
theorem dup_of {R : List PE} {t : Nat} {x y : PE} (hx : R[t]? = some x) (hy : R[t + 1]? = some y) (he : x.k = y.k) : ¬ (R.map PE.k).Nodup := by
  intro h
  obtain ⟨h1, e1⟩ := List.getElem?_eq_some_iff.1 hx
  obtain ⟨h2, e2⟩ := List.getElem?_eq_some_iff.1 hy
  have := List.pairwise_iff_getElem.1 h t (t + 1) (by simpa using h1) (by simpa using h2) (by omega)
  simp only [List.getElem_map] at this
  rw [e1, e2] at this
  exact this he
theorem le_key {p q : PE} (h : leP p q = true) : ltS q.k p.k = false := by
  unfold leP ltP at h
  by_cases e : q.k = p.k
  · rw [e, ltS_irrefl]
  · rw [if_neg e] at h
    simpa using h
theorem nodup_of {R : List PE} (hs : R.Pairwise (fun p q => leP p q = true)) (hadj : ∀ j, 1 ≤ j → j < R.length → ∀ x y, R[j - 1]? = some x → R[j]? = some y → x.k ≠ y.k) : (R.map PE.k).Nodup := by
  refine List.pairwise_iff_getElem.2 fun i j hi hj hij => ?_
  simp only [List.length_map] at hi hj
  simp only [List.getElem_map]
  intro he
  have hs' := List.pairwise_iff_getElem.1 hs
  have h1 := hadj (i + 1) (by omega) (by omega) R[i] (R[i + 1]'(by omega)) (by simp) (by simp)
  refine h1 (ltS_tri ?_ ?_)
  · rcases Nat.lt_or_ge (i + 1) j with h | h
    · have := le_key (hs' (i + 1) j (by omega) hj h)
      rw [← he] at this
      exact this
    · obtain rfl : j = i + 1 := by omega
      rw [he]
      exact ltS_irrefl _
  · exact le_key (hs' i (i + 1) (by omega) (by omega) (by omega))

set_option maxRecDepth 100000 in
set_option maxHeartbeats 1600000 in
theorem same9 (w : World) (a b : Option Addr) (n c d : Nat) (ps : List PE) (h1 : IsPs w a n c ps) (h2 : IsPs w b n d ps) : Calls Try.prog 9 #[.slice a n c, .slice b n d] w (Yes w) := by
  have m0 : n ≤ 9223372036854775807 := by have := h1.2.1; have := h1.2.2.1; unfold maxLen at this; omega
  have H1 := Lib.hid h1
  have H2 := Lib.hid h2
  clear h1 h2
  unfold Yes
  go_enter Try.func9, Try.ntmps9
  go_wp2
  go_loopw [5] (fun i wr => ∃ k : Nat, k ≤ n ∧ i = .int .i64 k ∧ Hid (Below w.heap.size w wr)) (fun i _ => n - (intOf i).toNat)
  case atStart => exact ⟨0, Nat.zero_le _, rfl, Lib.hid (Below.refl _ _)⟩
  case round =>
    obtain ⟨k, hk, rfl, hbel⟩ := hrel
    by_cases hlt : k < n
    · obtain ⟨p, hp⟩ : ∃ p, ps[k]? = some p := ⟨ps[k]'(by rw [H1.out.1]; exact hlt), by simp⟩
      obtain ⟨b1, off1, ha, hb1, x0, x1⟩ := IsPs.at (H1.out.2.2.2.2.2.below hbel.out) hp
      obtain ⟨b2, off2, hb, hb2, y0, y1⟩ := IsPs.at (H2.out.2.2.2.2.2.below hbel.out) hp
      subst ha hb
      have hbw1 : b1 < wr.heap.size := Nat.lt_of_lt_of_le hb1 hbel.out.size
      have hbw2 : b2 < wr.heap.size := Nat.lt_of_lt_of_le hb2 hbel.out.size
      clear hp
      obtain ⟨pk, pv⟩ := p
      simp only at x0 x1 y0 y1
      go_wp2_with fail
      go_quiet (fail)
      have BN := Lib.hid (bel_drewN hbel.out nq)
      go_wp2_with fail
      go_roundw
      case rel => exact ⟨k + 1, by omega, by go_num, BN⟩
      case measure => simp [intOf]; omega
    · obtain rfl : k = n := by omega
      go_wp2
      go_ret
      exact ⟨rfl, hbel.out⟩

set_option maxRecDepth 100000 in
set_option maxHeartbeats 3200000 in
theorem rep8 (w : World) (a : Option Addr) (n c : Nat) (ps : List PE) (h : IsPs w a n c ps) (hn : n ≤ 32768) : Calls Try.prog 8 #[.slice a n c] w (RepB w (ps.map PE.v).Nodup) := by
  obtain ⟨i0, hi, hz0, hz1, hz2⟩ := infP_parts
  have hmk : ∀ W, (Instr.makeSlice 22 (.int .i64 n) (.int .i64 n)).run Try.prog W = .ok (.slice (some ⟨W.heap.size, 0, none⟩) n n) (W.alloc (.cells (rowsP PE.cells zP [] n).flatten.toArray 28)) := by
    intro W
    have := run_make_n (P := Try.prog) 22 28 i0 _ Try.underlying22 hi hz0 .i64 .i64 n n (Nat.le_refl _) (by rw [hz2]; omega) (by omega) W
    rw [hz1, show (Value.agg #[.string ⟨#[]⟩, .string ⟨#[]⟩]).cells = zP.toArray by simp [Value.cells, zP], made_rowsP PE.cells zP 2 n rfl (by decide)] at this
    exact this
  generalize hC0 : (rowsP PE.cells zP [] n).flatten.toArray = C0 at hmk
  have HC0 := Lib.hid hC0
  have H := Lib.hid h
  have hl0 : ([] : List PE).length = 0 := rfl
  clear hi hz0 hz1 hz2 hC0 h
  go_enter Try.func8, Try.ntmps8
  go_wp2_with fail
  go_loopw [4] (fun i wr => ∃ k : Nat, k ≤ n ∧ i = .int .i64 k ∧ Hid (Blk wr w.heap.size 28 (rowsP PE.cells zP ((ps.take k).map fun p => (⟨p.v, ⟨#[]⟩⟩ : PE)) n).flatten.toArray) ∧ Hid (Below w.heap.size w wr)) (fun i _ => n - (intOf i).toNat)
  case atStart => exact ⟨0, Nat.zero_le _, rfl, Lib.hid (by rw [List.take_zero, List.map_nil, HC0.out]; exact Blk.new w 28 C0), Lib.hid ((Below.refl _ _).alloc (Nat.le_refl _) _)⟩
  case round =>
    clear hmk
    obtain ⟨k, hk, rfl, hblk, hbel⟩ := hrel
    by_cases hlt : k < n
    · obtain ⟨p, hp⟩ : ∃ p, ps[k]? = some p := ⟨ps[k]'(by rw [H.out.1]; exact hlt), by simp⟩
      obtain ⟨b, off, ha, hb, x0, x1⟩ := IsPs.at (H.out.2.2.2.2.2.below hbel.out) hp
      subst ha
      have hbw : b < wr.heap.size := Nat.lt_of_lt_of_le hb hbel.out.size
      have hlk : ((ps.take k).map fun p => (⟨p.v, ⟨#[]⟩⟩ : PE)).length = k := by rw [List.length_map, List.length_take, H.out.1]; omega
      have HTK : Hid (((ps.take (k + 1)).map fun p => (⟨p.v, ⟨#[]⟩⟩ : PE)) = ((ps.take k).map fun p => (⟨p.v, ⟨#[]⟩⟩ : PE)) ++ [⟨p.v, ⟨#[]⟩⟩]) := Lib.hid (by rw [List.take_add_one, hp, List.map_append]; rfl)
      obtain ⟨g0, g1, f0, f1⟩ := row2 hblk.out hlk hlt
      have gl := hblk.out.lt
      have HS := Lib.hid (row2_set hblk.out hlk hlt (.string p.v) (.string ⟨#[]⟩) ⟨p.v, ⟨#[]⟩⟩ rfl)
      rw [← HTK.out] at HS
      have HB := Lib.hid ((hbel.out.setCell (p := ⟨w.heap.size, k * 2, none⟩) (Nat.le_refl _) (.string p.v)).setCell (p := ⟨w.heap.size, k * 2 + 1, none⟩) (Nat.le_refl _) (.string ⟨#[]⟩))
      clear hp hlk hblk hbel HTK
      go_wp2_with fail
      go_roundw
      case rel => exact ⟨k + 1, by omega, by go_num, HS, HB⟩
      case measure => simp [intOf]; omega
    · obtain rfl : k = n := by omega
      have hfull := hblk.out
      rw [List.take_of_length_le (by rw [H.out.1]; exact Nat.le_refl _), rowsP_full _ _ _ _ (by rw [List.length_map, H.out.1])] at hfull
      obtain ⟨VS, hVS⟩ : ∃ VS, VS = ps.map fun p => (⟨p.v, ⟨#[]⟩⟩ : PE) := ⟨_, rfl⟩
      rw [← hVS] at hfull
      have HVS := Lib.hid hVS
      have HI : IsPs wr (some ⟨w.heap.size, 0, none⟩) k k VS := ⟨by rw [hVS, List.length_map, H.out.1], Nat.le_refl _, by unfold maxLen; omega, (fun h => by cases h), (fun z hz => by
        rw [hVS] at hz
        obtain ⟨p, hp, rfl⟩ := List.mem_map.1 hz
        exact ⟨(H.out.2.2.2.2.1 p hp).2, by simp [ByteArray.size]⟩), (by have := hfull.rd wr.heap.size hfull.lt; simpa [cellsP] using this)⟩
      have KS := Lib.hid (sort10 k wr _ k VS HI (by omega))
      clear hfull hVS HI hblk
      go_wp2_with fail
      refine KS.out.mono ?_
      rintro e w2 ⟨R, g, rfl, hR, hRp, hRs, hg, hb2⟩
      have BR := Lib.hid hR
      have RP := Lib.hid hRp
      have RS := Lib.hid hRs
      have B2 := Lib.hid (hbel.out.trans (hb2.mono hbel.out.size))
      have hRl : R.length = k := by rw [hRp.length_eq, HVS.out, List.length_map, H.out.1]
      have HRL := Lib.hid hRl
      have HND : Hid ((ps.map PE.v).Nodup ↔ (R.map PE.k).Nodup) := Lib.hid (by
        have e : VS.map PE.k = ps.map PE.v := by rw [HVS.out, List.map_map]; rfl
        rw [← e]
        exact ((hRp.map PE.k).nodup_iff).symm)
      clear hR hRp hRs hb2 KS hRl hbel
      go_wp2_with fail
      go_loopw [6] (fun i wr => ∃ q : Nat, 1 ≤ q ∧ (q ≤ k ∨ q = 1) ∧ i = .int .i64 q ∧ Hid (∀ j, 1 ≤ j → j < q → ∀ x y, R[j - 1]? = some x → R[j]? = some y → x.k ≠ y.k) ∧ Hid (Below w2.heap.size w2 wr)) (fun i _ => k - (intOf i).toNat)
      case atStart => exact ⟨1, Nat.le_refl _, .inr rfl, rfl, Lib.hid fun j h1 h2 => by omega, Lib.hid (Below.refl _ _)⟩
      case round =>
        rename_i wx
        obtain ⟨q, hq1, hqk, rfl, HQ, hbel⟩ := hrel
        have BE := Lib.hid (B2.out.trans (hbel.out.mono B2.out.size))
        by_cases hlt2 : q < k
        · obtain ⟨t, rfl⟩ : ∃ t, q = t + 1 := ⟨q - 1, by omega⟩
          obtain ⟨x, hx⟩ : ∃ x, R[t]? = some x := ⟨R[t]'(by rw [HRL.out]; omega), by simp⟩
          obtain ⟨y, hy⟩ : ∃ y, R[t + 1]? = some y := ⟨R[t + 1]'(by rw [HRL.out]; omega), by simp⟩
          have hBr := BR.out.under hbel.out
          have y0 := hBr.cell (t * 2)
          have y1 := hBr.cell ((t + 1) * 2)
          rw [List.getElem?_toArray, ← Nat.add_zero (t * 2), cellsP_at R t 0 x hx (by omega), Nat.add_zero] at y0
          rw [List.getElem?_toArray, ← Nat.add_zero ((t + 1) * 2), cellsP_at R (t + 1) 0 y hy (by omega), Nat.add_zero] at y1
          simp [PE.cells] at y0 y1
          have yl := hBr.lt
          have HX := Lib.hid hx
          have HY := Lib.hid hy
          clear hx hy hBr
          have hb3 := bytes_eq (s := x.k) (t := y.k)
          by_cases he : x.k = y.k
          · have hb4 : (x.k.toList == y.k.toList) = true := by rw [hb3]; simpa using he
            have HE := Lib.hid he
            clear hb3 he
            go_wp2_with fail
            go_quiet (fail)
            go_wp2_with fail
            go_ret
            exact ⟨true, rfl, bel_drewN BE.out _, by rw [HND.out]; simp; exact dup_of HX.out HY.out HE.out⟩
          · have hb4 : (x.k.toList == y.k.toList) = false := by rw [hb3]; simpa using he
            have HE := Lib.hid he
            clear hb3 he
            go_wp2_with fail
            go_quiet (fail)
            have BN := Lib.hid (bel_drewN hbel.out nq)
            go_wp2_with fail
            go_roundw
            case rel =>
              refine ⟨t + 1 + 1, by omega, by omega, by go_num, Lib.hid fun j h1 h2 x' y' hx' hy' => ?_, BN⟩
              rcases Nat.lt_or_ge j (t + 1) with h | h
              · exact HQ.out j h1 h x' y' hx' hy'
              · obtain rfl : j = t + 1 := by omega
                rw [Nat.add_sub_cancel, HX.out] at hx'
                rw [HY.out] at hy'
                obtain rfl := Option.some.inj hx'
                obtain rfl := Option.some.inj hy'
                exact HE.out
            case measure => simp [intOf]; omega
        · have hkq : ¬ (q : Int) < (k : Int) := by omega
          go_wp2_with fail
          go_ret
          exact ⟨false, rfl, BE.out, by rw [HND.out]; simp; exact nodup_of RS.out (fun j h1 h2 x y hx hy => HQ.out j h1 (by rw [HRL.out] at h2; omega) x y hx hy)⟩
set_option maxRecDepth 100000 in
set_option maxHeartbeats 3200000 in
theorem rep12 (w : World) (a : Option Addr) (n c : Nat) (ps : List PE) (h : IsPs w a n c ps) (hn : n ≤ 32768) : Calls Try.prog 12 #[.slice a n c] w (RepB w (ps.map PE.k).Nodup) := by
  obtain ⟨i0, hi, hz0, hz1, hz2⟩ := infP_parts
  have hmk : ∀ W, (Instr.makeSlice 22 (.int .i64 n) (.int .i64 n)).run Try.prog W = .ok (.slice (some ⟨W.heap.size, 0, none⟩) n n) (W.alloc (.cells (rowsP PE.cells zP [] n).flatten.toArray 28)) := by
    intro W
    have := run_make_n (P := Try.prog) 22 28 i0 _ Try.underlying22 hi hz0 .i64 .i64 n n (Nat.le_refl _) (by rw [hz2]; omega) (by omega) W
    rw [hz1, show (Value.agg #[.string ⟨#[]⟩, .string ⟨#[]⟩]).cells = zP.toArray by simp [Value.cells, zP], made_rowsP PE.cells zP 2 n rfl (by decide)] at this
    exact this
  generalize hC0 : (rowsP PE.cells zP [] n).flatten.toArray = C0 at hmk
  have HC0 := Lib.hid hC0
  have H := Lib.hid h
  have hl0 : ([] : List PE).length = 0 := rfl
  clear hi hz0 hz1 hz2 hC0 h
  go_enter Try.func12, Try.ntmps12
  go_wp2_with fail
  go_loopw [4] (fun i wr => ∃ k : Nat, k ≤ n ∧ i = .int .i64 k ∧ Hid (Blk wr w.heap.size 28 (rowsP PE.cells zP ((ps.take k).map fun p => (⟨p.k, ⟨#[]⟩⟩ : PE)) n).flatten.toArray) ∧ Hid (Below w.heap.size w wr)) (fun i _ => n - (intOf i).toNat)
  case atStart => exact ⟨0, Nat.zero_le _, rfl, Lib.hid (by rw [List.take_zero, List.map_nil, HC0.out]; exact Blk.new w 28 C0), Lib.hid ((Below.refl _ _).alloc (Nat.le_refl _) _)⟩
  case round =>
    clear hmk
    obtain ⟨k, hk, rfl, hblk, hbel⟩ := hrel
    by_cases hlt : k < n
    · obtain ⟨p, hp⟩ : ∃ p, ps[k]? = some p := ⟨ps[k]'(by rw [H.out.1]; exact hlt), by simp⟩
      obtain ⟨b, off, ha, hb, x0, x1⟩ := IsPs.at (H.out.2.2.2.2.2.below hbel.out) hp
      subst ha
      have hbw : b < wr.heap.size := Nat.lt_of_lt_of_le hb hbel.out.size
      have hlk : ((ps.take k).map fun p => (⟨p.k, ⟨#[]⟩⟩ : PE)).length = k := by rw [List.length_map, List.length_take, H.out.1]; omega
      have HTK : Hid (((ps.take (k + 1)).map fun p => (⟨p.k, ⟨#[]⟩⟩ : PE)) = ((ps.take k).map fun p => (⟨p.k, ⟨#[]⟩⟩ : PE)) ++ [⟨p.k, ⟨#[]⟩⟩]) := Lib.hid (by rw [List.take_add_one, hp, List.map_append]; rfl)
      obtain ⟨g0, g1, f0, f1⟩ := row2 hblk.out hlk hlt
      have gl := hblk.out.lt
      have HS := Lib.hid (row2_set hblk.out hlk hlt (.string p.k) (.string ⟨#[]⟩) ⟨p.k, ⟨#[]⟩⟩ rfl)
      rw [← HTK.out] at HS
      have HB := Lib.hid ((hbel.out.setCell (p := ⟨w.heap.size, k * 2, none⟩) (Nat.le_refl _) (.string p.k)).setCell (p := ⟨w.heap.size, k * 2 + 1, none⟩) (Nat.le_refl _) (.string ⟨#[]⟩))
      clear hp hlk hblk hbel HTK
      go_wp2_with fail
      go_roundw
      case rel => exact ⟨k + 1, by omega, by go_num, HS, HB⟩
      case measure => simp [intOf]; omega
    · obtain rfl : k = n := by omega
      have hfull := hblk.out
      rw [List.take_of_length_le (by rw [H.out.1]; exact Nat.le_refl _), rowsP_full _ _ _ _ (by rw [List.length_map, H.out.1])] at hfull
      obtain ⟨VS, hVS⟩ : ∃ VS, VS = ps.map fun p => (⟨p.k, ⟨#[]⟩⟩ : PE) := ⟨_, rfl⟩
      rw [← hVS] at hfull
      have HVS := Lib.hid hVS
      have HI : IsPs wr (some ⟨w.heap.size, 0, none⟩) k k VS := ⟨by rw [hVS, List.length_map, H.out.1], Nat.le_refl _, by unfold maxLen; omega, (fun h => by cases h), (fun z hz => by
        rw [hVS] at hz
        obtain ⟨p, hp, rfl⟩ := List.mem_map.1 hz
        exact ⟨(H.out.2.2.2.2.1 p hp).1, by simp [ByteArray.size]⟩), (by have := hfull.rd wr.heap.size hfull.lt; simpa [cellsP] using this)⟩
      have KS := Lib.hid (sort10 k wr _ k VS HI (by omega))
      clear hfull hVS HI hblk
      go_wp2_with fail
      refine KS.out.mono ?_
      rintro e w2 ⟨R, g, rfl, hR, hRp, hRs, hg, hb2⟩
      have BR := Lib.hid hR
      have RP := Lib.hid hRp
      have RS := Lib.hid hRs
      have B2 := Lib.hid (hbel.out.trans (hb2.mono hbel.out.size))
      have hRl : R.length = k := by rw [hRp.length_eq, HVS.out, List.length_map, H.out.1]
      have HRL := Lib.hid hRl
      have HND : Hid ((ps.map PE.k).Nodup ↔ (R.map PE.k).Nodup) := Lib.hid (by
        have e : VS.map PE.k = ps.map PE.k := by rw [HVS.out, List.map_map]; rfl
        rw [← e]
        exact ((hRp.map PE.k).nodup_iff).symm)
      clear hR hRp hRs hb2 KS hRl hbel
      go_wp2_with fail
      go_loopw [6] (fun i wr => ∃ q : Nat, 1 ≤ q ∧ (q ≤ k ∨ q = 1) ∧ i = .int .i64 q ∧ Hid (∀ j, 1 ≤ j → j < q → ∀ x y, R[j - 1]? = some x → R[j]? = some y → x.k ≠ y.k) ∧ Hid (Below w2.heap.size w2 wr)) (fun i _ => k - (intOf i).toNat)
      case atStart => exact ⟨1, Nat.le_refl _, .inr rfl, rfl, Lib.hid fun j h1 h2 => by omega, Lib.hid (Below.refl _ _)⟩
      case round =>
        rename_i wx
        obtain ⟨q, hq1, hqk, rfl, HQ, hbel⟩ := hrel
        have BE := Lib.hid (B2.out.trans (hbel.out.mono B2.out.size))
        by_cases hlt2 : q < k
        · obtain ⟨t, rfl⟩ : ∃ t, q = t + 1 := ⟨q - 1, by omega⟩
          obtain ⟨x, hx⟩ : ∃ x, R[t]? = some x := ⟨R[t]'(by rw [HRL.out]; omega), by simp⟩
          obtain ⟨y, hy⟩ : ∃ y, R[t + 1]? = some y := ⟨R[t + 1]'(by rw [HRL.out]; omega), by simp⟩
          have hBr := BR.out.under hbel.out
          have y0 := hBr.cell (t * 2)
          have y1 := hBr.cell ((t + 1) * 2)
          rw [List.getElem?_toArray, ← Nat.add_zero (t * 2), cellsP_at R t 0 x hx (by omega), Nat.add_zero] at y0
          rw [List.getElem?_toArray, ← Nat.add_zero ((t + 1) * 2), cellsP_at R (t + 1) 0 y hy (by omega), Nat.add_zero] at y1
          simp [PE.cells] at y0 y1
          have yl := hBr.lt
          have HX := Lib.hid hx
          have HY := Lib.hid hy
          clear hx hy hBr
          have hb3 := bytes_eq (s := x.k) (t := y.k)
          by_cases he : x.k = y.k
          · have hb4 : (x.k.toList == y.k.toList) = true := by rw [hb3]; simpa using he
            have HE := Lib.hid he
            clear hb3 he
            go_wp2_with fail
            go_quiet (fail)
            go_wp2_with fail
            go_ret
            exact ⟨true, rfl, bel_drewN BE.out _, by rw [HND.out]; simp; exact dup_of HX.out HY.out HE.out⟩
          · have hb4 : (x.k.toList == y.k.toList) = false := by rw [hb3]; simpa using he
            have HE := Lib.hid he
            clear hb3 he
            go_wp2_with fail
            go_quiet (fail)
            have BN := Lib.hid (bel_drewN hbel.out nq)
            go_wp2_with fail
            go_roundw
            case rel =>
              refine ⟨t + 1 + 1, by omega, by omega, by go_num, Lib.hid fun j h1 h2 x' y' hx' hy' => ?_, BN⟩
              rcases Nat.lt_or_ge j (t + 1) with h | h
              · exact HQ.out j h1 h x' y' hx' hy'
              · obtain rfl : j = t + 1 := by omega
                rw [Nat.add_sub_cancel, HX.out] at hx'
                rw [HY.out] at hy'
                obtain rfl := Option.some.inj hx'
                obtain rfl := Option.some.inj hy'
                exact HE.out
            case measure => simp [intOf]; omega
        · have hkq : ¬ (q : Int) < (k : Int) := by omega
          go_wp2_with fail
          go_ret
          exact ⟨false, rfl, BE.out, by rw [HND.out]; simp; exact nodup_of RS.out (fun j h1 h2 x y hx hy => HQ.out j h1 (by rw [HRL.out] at h2; omega) x y hx hy)⟩
end Go.Proofs.Ytlbiknodipcnbaa
