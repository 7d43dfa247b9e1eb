/- The walk of the law that a clone is independent of its source. -/
import Derived.Test.YtnmedoekbcbgbaaAlg
namespace Go.Proofs.Ytnmedoekbcbgbaa
open Go.RowKit
set_option linter.unusedVariables false

def remS (ks l : List ByteArray) : List ByteArray := l.foldl dropS ks
def putS (ks l : List ByteArray) : List ByteArray := l.foldl addS ks
theorem mem_dropS (ks : List ByteArray) (s x : ByteArray) : mem (dropS ks s) x = (mem ks x && !decide (s = x)) := by
  unfold dropS
  rw [mem_filter]
  congr 1
  by_cases h : x = s
  · subst h
    simp
  · simp [h]
    exact fun e => h e.symm
theorem mem_remS (l : List ByteArray) : ∀ (ks : List ByteArray) (x : ByteArray), mem (remS ks l) x = (mem ks x && !mem l x) := by
  induction l with
  | nil => intro ks x; simp [remS, mem]
  | cons a l ih =>
    intro ks x
    have h1 : remS ks (a :: l) = remS (dropS ks a) l := rfl
    have h2 : mem (a :: l) x = (decide (a = x) || mem l x) := by simp [mem]
    rw [h1, ih, mem_dropS, h2]
    cases mem ks x <;> cases decide (a = x) <;> cases mem l x <;> rfl
theorem rem_succ (ks l : List ByteArray) (k : Nat) (s : ByteArray) (h : l[k]? = some s) : remS ks (l.take (k + 1)) = dropS (remS ks (l.take k)) s := by
  unfold remS
  rw [List.take_add_one, h]
  simp
theorem put_succ (ks l : List ByteArray) (k : Nat) (s : ByteArray) (h : l[k]? = some s) : putS ks (l.take (k + 1)) = addS (putS ks (l.take k)) s := by
  unfold putS
  rw [List.take_add_one, h]
  simp
theorem nil_of_mem {l : List ByteArray} (h : ∀ x, mem l x = false) : l = [] := by
  cases l with
  | nil => rfl
  | cons a l => exact absurd (h a) (by simp [mem])
theorem SetIs.nodup {w : World} {B n : Nat} {ks : List ByteArray} (h : SetIs w B n ks) : ks.Nodup := by
  obtain ⟨D, h1, h2⟩ := h
  exact h2.1

set_option maxRecDepth 100000 in
set_option maxHeartbeats 6400000 in
theorem law44 (a : Option Addr) (n c : Nat) (K : List ByteArray) (a2 : Option Addr) (n2 c2 : Nat) (R : List ByteArray) (a3 : Option Addr) (n3 c3 : Nat) (A : List ByteArray) (w : World) (h : IsStrs w a n c K) (h2 : IsStrs w a2 n2 c2 R) (h3 : IsStrs w a3 n3 c3 A) :
    Calls Try.prog 4 #[.slice a n c, .slice a2 n2 c2, .slice a3 n3 c3] w fun e w' => e = .returned (.bool true) ∧ Below w.heap.size w w' := by
  have G := Lib.hid (guard13 w a n c K a2 n2 c2 R a3 n3 c3 A h h2 h3)
  have SZ := Lib.hid (bytes_any w a n c K h)
  have SZ2 := Lib.hid (bytes_any w a2 n2 c2 R h2)
  have SZ3 := Lib.hid (bytes_any w a3 n3 c3 A h3)
  have hnm := h.strs.2.1
  have hnm2 := h2.strs.2.1
  have hnm3 := h3.strs.2.1
  have H := Lib.hid h
  have H2 := Lib.hid h2
  have H3 := Lib.hid h3
  clear h h2 h3
  by_cases hbig : 1024 < n
  · go_enter Try.func4, Try.ntmps4
    go_wp2_with fail
    refine G.out.mono ?_
    rintro e w1 ⟨r, rfl, rfl⟩
    cases r
    · go_wp2_with fail
      go_ret
      exact ⟨rfl, Below.refl _ _⟩
    · go_wp2_with fail
      go_ret
      exact ⟨rfl, Below.refl _ _⟩
  by_cases hbig2 : 1024 < n2
  · go_enter Try.func4, Try.ntmps4
    go_wp2_with fail
    refine G.out.mono ?_
    rintro e w1 ⟨r, rfl, rfl⟩
    cases r
    · go_wp2_with fail
      go_ret
      exact ⟨rfl, Below.refl _ _⟩
    · go_wp2_with fail
      go_ret
      exact ⟨rfl, Below.refl _ _⟩
  by_cases hbig3 : 1024 < n3
  · go_enter Try.func4, Try.ntmps4
    go_wp2_with fail
    refine G.out.mono ?_
    rintro e w1 ⟨r, rfl, rfl⟩
    cases r
    · go_wp2_with fail
      go_ret
      exact ⟨rfl, Below.refl _ _⟩
    · go_wp2_with fail
      go_ret
      exact ⟨rfl, Below.refl _ _⟩
  go_enter Try.func4, Try.ntmps4
  go_wp2_with fail
  refine G.out.mono ?_
  rintro e w1 ⟨r, rfl, rfl⟩
  clear G
  cases r
  · go_wp2_with fail
    go_ret
    exact ⟨rfl, Below.refl _ _⟩
  go_wp2_with fail
  refine SZ.out.mono ?_
  rintro e w1 ⟨m, rfl, rfl⟩
  clear SZ
  go_wp2_with fail
  refine SZ2.out.mono ?_
  rintro e w1 ⟨m2, rfl, rfl⟩
  clear SZ2
  go_wp2_with fail
  refine SZ3.out.mono ?_
  rintro e w1 ⟨m3, rfl, rfl⟩
  clear SZ3
  by_cases hmm : 1048576 < wrap64 (wrap64 (m + m2) + m3)
  · go_wp2_with fail
    go_ret
    exact ⟨rfl, Below.refl _ _⟩
  go_wp2_with fail
  refine (newset_any w).mono ?_
  rintro e w1 ⟨rfl, hs1, hb1⟩
  have HS1 := Lib.hid hs1
  have HB1 := Lib.hid hb1
  clear hs1 hb1
  go_wp2_with fail
  go_loopw [8] (fun i wr => ∃ k : Nat, k ≤ n ∧ i = .int .i64 k ∧ Hid (SetIs wr w.heap.size k (bld K k)) ∧ Hid (Below w.heap.size w wr)) (fun i _ => n - (intOf i).toNat)
  case atStart => exact ⟨0, Nat.zero_le _, rfl, by simpa [bld] using HS1, HB1⟩
  case round =>
    obtain ⟨k, hk, rfl, hset, hbel⟩ := hrel
    by_cases hlt : k < n
    · obtain ⟨s, b, off, hs, ha, hb, hsz, hcell⟩ := (H.out.below hbel.out).at2 hlt
      have KC := Lib.hid (add_any wr w.heap.size k (bld K k) s hset.out hsz (by omega))
      subst ha
      have HBS := Lib.hid (bld_succ K k s hs)
      clear hs hsz
      go_wp2_with fail
      refine KC.out.mono ?_
      rintro e w2 ⟨r, rfl, hs2, hg2⟩
      have HS2 := Lib.hid hs2
      rw [← HBS.out] at HS2
      have HB2 := Lib.hid (hbel.out.grown hg2 hbel.out.size (fun j hj => by cases hj; exact Nat.le_refl _))
      clear hs2 hg2 KC
      go_wp2_with fail
      go_roundw
      case rel => exact ⟨k + 1, by omega, by go_num, HS2, HB2⟩
      case measure => simp [intOf]; omega
    · obtain rfl : k = n := by omega
      have hbl := bld_le K k
      go_wp2_with fail
      refine (clone_any wr w.heap.size k (bld K k) hset.out (by omega)).mono ?_
      rintro e w2 ⟨rfl, hs2, hb2⟩
      have HC2 := Lib.hid hs2
      have HS2 := Lib.hid (hset.out.below hb2)
      have HB2 := Lib.hid (hbel.out.trans (hb2.mono hbel.out.size))
      have hsw : w.heap.size < wr.heap.size := hset.out.lt
      have hmb := fun x => mem_bld K k x
      rw [List.take_of_length_le (by rw [H.out.1]; exact Nat.le_refl _)] at hmb
      have HMB := Lib.hid hmb
      have HBE := Lib.hid (show bld K k = bld K K.length by rw [H.out.1])
      clear hs2 hb2 hmb hset hbel HS1 HB1
      generalize hbs : bld K k = bs at *
      have HBS := Lib.hid hbs
      clear hbs
      go_wp2_with fail
      generalize wr.heap.size = B2 at *
      generalize hw0 : w.heap.size = B1 at *
      have HW0 := Lib.hid hw0
      clear hw0
      go_loopw [10] (fun i wr => ∃ q : Nat, q ≤ n2 ∧ i = .int .i64 q ∧ Hid (SetIs wr B1 k bs) ∧ Hid (SetIs wr B2 bs.length (remS bs (R.take q))) ∧ Hid (Below B1 w wr)) (fun i _ => n2 - (intOf i).toNat)
      case atStart => exact ⟨0, Nat.zero_le _, rfl, HS2, by simpa [remS] using HC2, HB2⟩
      case round =>
        clear HS2 HC2 HB2
        obtain ⟨q, hq, rfl, hss, hcs, hbel⟩ := hrel
        by_cases hlq : q < n2
        · obtain ⟨s, b, off, hs, ha, hb, hsz, hcell⟩ := (H2.out.below (w' := wr) (by rw [HW0.out]; exact hbel.out)).at2 hlq
          have KC := Lib.hid (remove_any wr B2 bs.length (remS bs (R.take q)) s hcs.out hsz)
          subst ha
          have HRS := Lib.hid (rem_succ bs R q s hs)
          clear hs hsz
          go_wp2_with fail
          refine KC.out.mono ?_
          rintro e w4 ⟨rfl, hs4, hg4⟩
          have HC4 := Lib.hid hs4
          rw [← HRS.out] at HC4
          have HS4 := Lib.hid (hss.out.kept hg4 (by simp; omega))
          have HB4 := Lib.hid (hbel.out.grown hg4 (by rw [← HW0.out]; rw [← HW0.out] at hbel; exact hbel.out.size) (fun j hj => by cases hj; omega))
          clear hs4 hg4 KC
          go_wp2_with fail
          go_roundw
          case rel => exact ⟨q + 1, by omega, by go_num, HS4, HC4, HB4⟩
          case measure => simp [intOf]; omega
        · obtain rfl : q = n2 := by omega
          have hR : R.take q = R := List.take_of_length_le (by rw [H2.out.1]; exact Nat.le_refl _)
          rw [hR] at hcs
          clear hR
          go_wp2_with fail
          go_loopw [11] (fun i wr => ∃ p : Nat, p ≤ n3 ∧ i = .int .i64 p ∧ Hid (SetIs wr B1 k bs) ∧ Hid (SetIs wr B2 (bs.length + p) (putS (remS bs R) (A.take p))) ∧ Hid (Below B1 w wr)) (fun i _ => n3 - (intOf i).toNat)
          case atStart => exact ⟨0, Nat.zero_le _, rfl, hss, by simpa [putS] using hcs, hbel⟩
          case round =>
            clear hss hcs hbel
            obtain ⟨p, hp, rfl, hss, hcs, hbel⟩ := hrel
            by_cases hlp : p < n3
            · obtain ⟨s, b, off, hs, ha, hb, hsz, hcell⟩ := (H3.out.below (w' := wr) (by rw [HW0.out]; exact hbel.out)).at2 hlp
              have KC := Lib.hid (add_any wr B2 (bs.length + p) (putS (remS bs R) (A.take p)) s hcs.out hsz (by omega))
              subst ha
              have HRS := Lib.hid (put_succ (remS bs R) A p s hs)
              clear hs hsz
              go_wp2_with fail
              refine KC.out.mono ?_
              rintro e w4 ⟨r, rfl, hs4, hg4⟩
              have HC4 := Lib.hid hs4
              rw [← HRS.out, Nat.add_assoc] at HC4
              have HS4 := Lib.hid (hss.out.kept hg4 (by simp; omega))
              have HB4 := Lib.hid (hbel.out.grown hg4 (by rw [← HW0.out]; rw [← HW0.out] at hbel; exact hbel.out.size) (fun j hj => by cases hj; omega))
              clear hs4 hg4 KC
              go_wp2_with fail
              go_roundw
              case rel => exact ⟨p + 1, by omega, by go_num, HS4, HC4, HB4⟩
              case measure => simp [intOf]; omega
            · obtain rfl : p = n3 := by omega
              have hAt : A.take p = A := List.take_of_length_le (by rw [H3.out.1]; exact Nat.le_refl _)
              rw [hAt] at hcs
              have hmc : ∀ x, mem (putS (remS bs R) A) x = wantC K R A x := fun x => by
                unfold putS
                rw [mem_fold, mem_remS, HMB.out]
                rfl
              have hlc := size_law K R A _ hcs.out.nodup hmc
              rw [H.out.1, H3.out.1] at hlc
              have HMC := Lib.hid hmc
              have HLC := Lib.hid hlc
              clear hAt hmc hlc
              generalize putS (remS bs R) A = cs at *
              have HBW := Lib.hid (show Below w.heap.size w wr by rw [HW0.out]; exact hbel.out)
              have KZ := Lib.hid (clonesize_any wr a k c K a2 q c2 R a3 p c3 A (H.out.below HBW.out).strs (H2.out.below HBW.out).strs (H3.out.below HBW.out).strs H.out.2.1 H3.out.2.1 (by omega) (by omega))
              rw [← HLC.out] at KZ
              have KD := Lib.hid (distinct_any wr a k c K (H.out.below HBW.out).strs H.out.2.1)
              rw [HBS.out] at KD
              have l1 := hss.out.len 3
              clear hbel
              go_wp2_with fail
              refine KZ.out.mono ?_
              rintro e w5 ⟨rfl, rfl⟩
              clear KZ
              go_wp2_with fail
              refine KD.out.mono ?_
              rintro e w6 ⟨rfl, hb6⟩
              have HS6 := Lib.hid (hss.out.below hb6)
              have HC6 := Lib.hid (hcs.out.below hb6)
              have HB6 := Lib.hid (HBW.out.trans (hb6.mono HBW.out.size))
              have l2 := HC6.out.len 3
              have TW := Lib.hid (show Two w6 B1 B2 k (bs.length + p) bs cs a k K a k K a2 q R a3 p A from ⟨HS6.out, HC6.out, (H.out.below HB6.out).strs, (H.out.below HB6.out).strs, (H2.out.below HB6.out).strs, (H3.out.below HB6.out).strs, HMB.out, HMC.out⟩)
              have KA := Lib.hid (allagree_any TW.out H.out.2.2.2.2.1 H2.out.2.2.2.2.1 H3.out.2.2.2.2.1 c c c2 c3)
              clear hb6 KD l1 hss hcs HBW TW
              go_wp2_with fail
              refine KA.out.mono ?_
              rintro e w7 ⟨rfl, hb7⟩
              have HS7 := Lib.hid (HS6.out.below hb7)
              have HC7 := Lib.hid (HC6.out.below hb7)
              have HB7 := Lib.hid (HB6.out.trans (hb7.mono HB6.out.size))
              clear hb7 KA l2 HS6 HC6 HB6
              go_wp2_with fail
              go_loopw [13] (fun i wr => ∃ t : Nat, t ≤ k ∧ i = .int .i64 t ∧ Hid (SetIs wr B1 k (remS bs (K.take t))) ∧ Hid (SetIs wr B2 (bs.length + p) cs) ∧ Hid (Below w.heap.size w wr)) (fun i _ => k - (intOf i).toNat)
              case atStart => exact ⟨0, Nat.zero_le _, rfl, by simpa [remS] using HS7, HC7, HB7⟩
              case round =>
                clear HS7 HC7 HB7
                obtain ⟨t, ht, rfl, hss, hcs, hbel⟩ := hrel
                by_cases hlt' : t < k
                · obtain ⟨s, b, off, hs, ha, hb, hsz, hcell⟩ := (H.out.below hbel.out).at2 hlt'
                  have KC := Lib.hid (remove_any wr B1 k (remS bs (K.take t)) s hss.out hsz)
                  subst ha
                  have HRS := Lib.hid (rem_succ bs K t s hs)
                  clear hs hsz
                  go_wp2_with fail
                  refine KC.out.mono ?_
                  rintro e w8 ⟨rfl, hs8, hg8⟩
                  have HS8 := Lib.hid hs8
                  rw [← HRS.out] at HS8
                  have HC8 := Lib.hid (hcs.out.kept hg8 (by simp; omega))
                  have HB8 := Lib.hid (hbel.out.grown hg8 hbel.out.size (fun j hj => by cases hj; rw [HW0.out]; exact Nat.le_refl _))
                  clear hs8 hg8 KC
                  go_wp2_with fail
                  go_roundw
                  case rel => exact ⟨t + 1, by omega, by go_num, HS8, HC8, HB8⟩
                  case measure => simp [intOf]; omega
                · obtain rfl : t = k := by omega
                  have hKt : K.take t = K := List.take_of_length_le (by rw [H.out.1]; exact Nat.le_refl _)
                  have hnil : remS bs K = [] := nil_of_mem fun x => by rw [mem_remS, HMB.out]; cases mem K x <;> rfl
                  rw [hKt, hnil] at hss
                  clear hKt hnil
                  have l1 := hss.out.len 3
                  have l2 := hcs.out.len 3
                  have TW := Lib.hid (show Two wr B1 B2 t (bs.length + p) [] cs none 0 [] a t K a2 q R a3 p A from ⟨hss.out, hcs.out, ⟨rfl, Nat.zero_le _, .inl rfl⟩, (H.out.below hbel.out).strs, (H2.out.below hbel.out).strs, (H3.out.below hbel.out).strs, fun x => rfl, HMC.out⟩)
                  have KA := Lib.hid (allagree_any TW.out H.out.2.2.2.2.1 H2.out.2.2.2.2.1 H3.out.2.2.2.2.1 0 c c2 c3)
                  simp only [List.length_nil] at l1
                  clear TW
                  go_wp2_with fail
                  refine KA.out.mono ?_
                  rintro e w9 ⟨rfl, hb9⟩
                  have HB9 := Lib.hid (hbel.out.trans (hb9.mono hbel.out.size))
                  clear hb9 KA l1 l2
                  go_wp2_with fail
                  go_ret
                  exact ⟨rfl, HB9.out⟩
end Go.Proofs.Ytnmedoekbcbgbaa
