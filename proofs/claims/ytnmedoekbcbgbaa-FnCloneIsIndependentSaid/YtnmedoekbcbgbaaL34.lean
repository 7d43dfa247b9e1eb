/- The walk of the law on a clone's members. -/
import Derived.Test.YtnmedoekbcbgbaaInn
import Derived.Test.YtnmedoekbcbgbaaClo
import Derived.Deep.RegionHeld3
namespace Go.Proofs.Ytnmedoekbcbgbaa
open Go.RowKit Go.Maps
set_option linter.unusedVariables false

theorem SetIs.drew {w : World} {B n : Nat} {ks : List ByteArray} (h : SetIs w B n ks) : SetIs w.drew B n ks := by
  obtain ⟨D, h1, h2⟩ := h
  exact ⟨D, h1.drew, h2⟩
theorem IsStrs.strs {w : World} {a : Option Addr} {n c : Nat} {ss : List ByteArray} (h : IsStrs w a n c ss) : Strs w a n ss :=
  ⟨h.1, by have := h.2.1; have := h.2.2.1; unfold maxLen at this; omega, h.2.2.2.2.2⟩

theorem IsStrs.below {w w' : World} {a : Option Addr} {n c : Nat} {zs : List ByteArray} (h : IsStrs w a n c zs) (hb : Below w.heap.size w w') : IsStrs w' a n c zs :=
  ⟨h.1, h.2.1, h.2.2.1, h.2.2.2.1, h.2.2.2.2.1, (h.2.2.2.2.2.below hb).mono hb.size⟩
theorem IsStrs.at2 {w : World} {a : Option Addr} {n c : Nat} {ss : List ByteArray} (h : IsStrs w a n c ss) {k : Nat} (hk : k < n) :
    ∃ s b off, ss[k]? = some s ∧ a = some ⟨b, off, none⟩ ∧ b < w.heap.size ∧ s.size ≤ maxLen ∧ w.cell? ⟨b, off + k, none⟩ = some (.string s) := by
  obtain ⟨h1, h2, h3, h4, h5, h6⟩ := h
  obtain ⟨b, off, ha, hb, hc⟩ := h6.pos (by simp; omega)
  have hs : ss[k]? = some (ss[k]'(by omega)) := by simp
  exact ⟨ss[k]'(by omega), b, off, hs, ha, hb, h5 _ (List.getElem_mem _), hc k _ (by simp [hs])⟩
/-- 'len' of a set. -/
theorem SetIs.len {w : World} {B n : Nat} {ks : List ByteArray} (h : SetIs w B n ks) (ty : TypeId) : (Builtin.len_ #[26] ty #[.map (some B)]).run Try.prog w = .ok (.int .i64 (ks.length : Nat)) w := by
  obtain ⟨D, h1, h2⟩ := h
  rw [h1.len Try.underlying26 ty, h2.2.1]

set_option maxRecDepth 100000 in
set_option maxHeartbeats 3200000 in
theorem law34 (a : Option Addr) (n c : Nat) (ks : List ByteArray) (a2 : Option Addr) (n2 c2 : Nat) (ps : List ByteArray) (w : World) (h : IsStrs w a n c ks) (h2 : IsStrs w a2 n2 c2 ps) :
    Calls Try.prog 3 #[.slice a n c, .slice a2 n2 c2] w fun e w' => e = .returned (.bool true) ∧ Below w.heap.size w w' := by
  have G := Lib.hid (guard5 w a n c ks a2 n2 c2 ps h h2)
  have SZ := Lib.hid (bytes_any w a n c ks h)
  have SZ2 := Lib.hid (bytes_any w a2 n2 c2 ps h2)
  have hnm := h.strs.2.1
  have hnm2 := h2.strs.2.1
  have H := Lib.hid h
  have H2 := Lib.hid h2
  clear h h2
  by_cases hbig : 4096 < n
  · go_enter Try.func3, Try.ntmps3
    go_wp2_with fail
    refine G.out.mono ?_
    rintro e w1 ⟨r, rfl, rfl⟩
    cases r
    · go_wp2_with fail
      go_ret
      exact ⟨rfl, Below.refl _ _⟩
    · go_wp2_with fail
      go_ret
      exact ⟨rfl, Below.refl _ _⟩
  by_cases hbig2 : 4096 < n2
  · go_enter Try.func3, Try.ntmps3
    go_wp2_with fail
    refine G.out.mono ?_
    rintro e w1 ⟨r, rfl, rfl⟩
    cases r
    · go_wp2_with fail
      go_ret
      exact ⟨rfl, Below.refl _ _⟩
    · go_wp2_with fail
      go_ret
      exact ⟨rfl, Below.refl _ _⟩
  go_enter Try.func3, Try.ntmps3
  go_wp2_with fail
  refine G.out.mono ?_
  rintro e w1 ⟨r, rfl, rfl⟩
  clear G
  cases r
  · go_wp2_with fail
    go_ret
    exact ⟨rfl, Below.refl _ _⟩
  go_wp2_with fail
  refine SZ.out.mono ?_
  rintro e w1 ⟨m, rfl, rfl⟩
  clear SZ
  go_wp2_with fail
  refine SZ2.out.mono ?_
  rintro e w1 ⟨m2, rfl, rfl⟩
  clear SZ2
  by_cases hmm : 1048576 < wrap64 (m + m2)
  · go_wp2_with fail
    go_ret
    exact ⟨rfl, Below.refl _ _⟩
  go_wp2_with fail
  refine (newset_any w).mono ?_
  rintro e w1 ⟨rfl, hs1, hb1⟩
  have HS1 := Lib.hid hs1
  have HB1 := Lib.hid hb1
  clear hs1 hb1
  go_wp2_with fail
  go_loopw [6] (fun i wr => ∃ k : Nat, k ≤ n ∧ i = .int .i64 k ∧ Hid (SetIs wr w.heap.size k (bld ks k)) ∧ Hid (Below w.heap.size w wr)) (fun i _ => n - (intOf i).toNat)
  case atStart => exact ⟨0, Nat.zero_le _, rfl, by simpa [bld] using HS1, HB1⟩
  case round =>
    obtain ⟨k, hk, rfl, hset, hbel⟩ := hrel
    by_cases hlt : k < n
    · obtain ⟨s, b, off, hs, ha, hb, hsz, hcell⟩ := (H.out.below hbel.out).at2 hlt
      have K := Lib.hid (add_any wr w.heap.size k (bld ks k) s hset.out hsz (by omega))
      subst ha
      have HBS := Lib.hid (bld_succ ks k s hs)
      clear hs hsz
      go_wp2_with fail
      refine K.out.mono ?_
      rintro e w2 ⟨r, rfl, hs2, hg2⟩
      have HS2 := Lib.hid hs2
      rw [← HBS.out] at HS2
      have HB2 := Lib.hid (hbel.out.grown hg2 hbel.out.size (fun j hj => by cases hj; exact Nat.le_refl _))
      clear hs2 hg2 K
      go_wp2_with fail
      go_roundw
      case rel => exact ⟨k + 1, by omega, by go_num, HS2, HB2⟩
      case measure => simp [intOf]; omega
    · obtain rfl : k = n := by omega
      have hbl := bld_le ks k
      go_wp2_with fail
      refine (clone_any wr w.heap.size k (bld ks k) hset.out (by omega)).mono ?_
      rintro e w2 ⟨rfl, hs2, hb2⟩
      have HC2 := Lib.hid hs2
      have HS2 := Lib.hid (hset.out.below hb2)
      have HB2 := Lib.hid (hbel.out.trans (hb2.mono hbel.out.size))
      have hsw := hbel.out.size
      clear hs2 hb2
      have KD := Lib.hid (distinct_any w2 a k c ks (H.out.below HB2.out).strs H.out.2.1)
      have l2 := HC2.out.len 3
      have hmb := fun x => mem_bld ks k x
      rw [List.take_of_length_le (by rw [H.out.1]; exact Nat.le_refl _)] at hmb
      have HMB := Lib.hid hmb
      clear hmb
      generalize bld ks k = bs at *
      go_wp2_with fail
      refine KD.out.mono ?_
      rintro e w3 ⟨rfl, hb3⟩
      have HC3 := Lib.hid (HC2.out.below hb3)
      have HS3 := Lib.hid (HS2.out.below hb3)
      have HB3 := Lib.hid (HB2.out.trans (hb3.mono HB2.out.size))
      have l3 := HC3.out.len 3
      have l3' := HS3.out.len 3
      clear hb3 KD l2
      go_wp2_with fail
      clear l3 l3' HS3 HC2 HS2 HB2 HS1 HB1 hset hbel
      generalize wr.heap.size = B2 at *
      go_loopw [8] (fun i wr => ∃ q : Nat, q ≤ k ∧ i = .int .i64 q ∧ Hid (SetIs wr B2 bs.length bs) ∧ Hid (Below w.heap.size w wr)) (fun i _ => k - (intOf i).toNat)
      case atStart => exact ⟨0, Nat.zero_le _, rfl, HC3, HB3⟩
      case round =>
        obtain ⟨q, hq, rfl, hset1, hbel1⟩ := hrel
        by_cases hlq : q < k
        · obtain ⟨s, b, off, hs, ha, hb, hsz, hcell⟩ := (H.out.below hbel1.out).at2 hlq
          have K := Lib.hid (contains_any wr B2 bs.length bs s hset1.out hsz)
          rw [HMB.out, mem_of_at hs] at K
          subst ha
          clear hs hsz
          go_wp2_with fail
          refine K.out.mono ?_
          rintro e w4 ⟨rfl, hb4⟩
          have HS4 := Lib.hid (hset1.out.below hb4)
          have HB4 := Lib.hid (hbel1.out.trans (hb4.mono hbel1.out.size))
          clear hb4 K
          go_wp2_with fail
          go_roundw
          case rel => exact ⟨q + 1, by omega, by go_num, HS4, HB4⟩
          case measure => simp [intOf]; omega
        · go_wp2_with fail
          go_loopw [9] (fun i wr => ∃ q : Nat, q ≤ n2 ∧ i = .int .i64 q ∧ Hid (SetIs wr B2 bs.length bs) ∧ Hid (Below w.heap.size w wr)) (fun i _ => n2 - (intOf i).toNat)
          case atStart => exact ⟨0, Nat.zero_le _, rfl, hset1, hbel1⟩
          case round =>
            clear hset1 hbel1 HC3 HB3
            obtain ⟨q2, hq2, rfl, hset2, hbel2⟩ := hrel
            by_cases hl2 : q2 < n2
            · obtain ⟨s, b, off, hs, ha, hb, hsz, hcell⟩ := (H2.out.below hbel2.out).at2 hl2
              have K := Lib.hid (contains_any wr.drew B2 bs.length bs s hset2.out hsz)
              rw [HMB.out] at K
              have KI := Lib.hid fun W (hW : Below w.heap.size w W) => in_any W a k c ks s (H.out.below hW).strs
              subst ha
              clear hs hsz
              cases hm : mem ks s
              · rw [hm] at K KI
                clear hm
                go_wp2_with fail
                go_region_held3 (fun w' => w'.cell? ⟨b, off + q2, none⟩ = some (.string s)) (first | exact hcell | exact c4 | go_keep) (first | (go_at_call 11; refine K.out.mono ?_; rintro e w4 ⟨rfl, hb4⟩; have c4 := (hb4.cell (p := ⟨b, off + q2, none⟩) hb).trans hcell; have HS4 := Lib.hid (hset2.out.drew.below hb4); have HB4 := Lib.hid (hbel2.out.drew.trans (hb4.mono hbel2.out.size)); clear hb4) | (go_at_call 12; refine (KI.out w4 HB4.out).mono ?_; rintro e w5 ⟨rfl, rfl⟩))
                all_goals
                  clear c4 K KI
                  go_wp2_with fail
                  go_roundw
                  case rel => exact ⟨q2 + 1, by omega, by go_num, HS4, HB4⟩
                  case measure => simp [intOf]; omega
              · rw [hm] at K KI
                clear hm
                go_wp2_with fail
                go_region_held3 (fun w' => w'.cell? ⟨b, off + q2, none⟩ = some (.string s)) (first | exact hcell | exact c4 | go_keep) (first | (go_at_call 11; refine K.out.mono ?_; rintro e w4 ⟨rfl, hb4⟩; have c4 := (hb4.cell (p := ⟨b, off + q2, none⟩) hb).trans hcell; have HS4 := Lib.hid (hset2.out.drew.below hb4); have HB4 := Lib.hid (hbel2.out.drew.trans (hb4.mono hbel2.out.size)); clear hb4) | (go_at_call 12; refine (KI.out w4 HB4.out).mono ?_; rintro e w5 ⟨rfl, rfl⟩))
                all_goals
                  clear c4 K KI
                  go_wp2_with fail
                  go_roundw
                  case rel => exact ⟨q2 + 1, by omega, by go_num, HS4, HB4⟩
                  case measure => simp [intOf]; omega
            · go_wp2_with fail
              go_ret
              exact ⟨rfl, hbel2.out⟩
end Go.Proofs.Ytnmedoekbcbgbaa
