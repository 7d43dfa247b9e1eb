/- zzCloneSize, zzAgrees, zzAllAgree; the plain law on sizes. -/
import Derived.Test.YtnmedoekbcbgbaaL34
namespace Go.Proofs.Ytnmedoekbcbgbaa
open Go.RowKit
set_option linter.unusedVariables false

/-! ### plain -/

def wantC (K R A : List ByteArray) (x : ByteArray) : Bool := (mem K x && !mem R x) || mem A x
def pK (R A : List ByteArray) (x : ByteArray) : Bool := !mem R x || mem A x
def pA (K : List ByteArray) (x : ByteArray) : Bool := !mem K x
def cntK (K R A : List ByteArray) (k : Nat) : Nat := ((bld K k).filter (pK R A)).length
def cntA (K A : List ByteArray) (k : Nat) : Nat := ((bld A k).filter (pA K)).length
theorem addS_nodup {ks : List ByteArray} (h : ks.Nodup) (s : ByteArray) : (addS ks s).Nodup := by
  unfold addS
  split
  · exact h
  · rename_i hm
    rw [List.nodup_append]
    exact ⟨h, by simp, fun a ha b hb => by rintro rfl; simp at hb; subst hb; exact hm ((mem_iff _ _).2 ha)⟩
theorem bld_nodup (ss : List ByteArray) (k : Nat) : (bld ss k).Nodup := by
  unfold bld
  generalize ss.take k = l
  suffices h : ∀ ks : List ByteArray, ks.Nodup → (l.foldl addS ks).Nodup from h [] List.nodup_nil
  induction l with
  | nil => exact fun ks h => h
  | cons a l ih => exact fun ks h => ih _ (addS_nodup h a)
theorem filter_succ (p : ByteArray → Bool) (ss : List ByteArray) (k : Nat) (s : ByteArray) (h : ss[k]? = some s) :
    ((bld ss (k + 1)).filter p).length = ((bld ss k).filter p).length + if mem (ss.take k) s = false ∧ p s = true then 1 else 0 := by
  rw [bld_succ ss k s h]
  unfold addS
  rw [mem_bld]
  cases hm : mem (ss.take k) s
  · rw [if_neg (by simp), List.filter_append, List.length_append]
    by_cases hp : p s = true <;> simp [hp]
  · simp
theorem same_len {a b : List ByteArray} (ha : a.Nodup) (hb : b.Nodup) (h : ∀ x, mem a x = mem b x) : a.length = b.length :=
  ((List.perm_ext_iff_of_nodup ha hb).2 fun x => by rw [← mem_iff, ← mem_iff, h x]).length_eq
theorem mem_filter (p : ByteArray → Bool) (l : List ByteArray) (x : ByteArray) : mem (l.filter p) x = (mem l x && p x) := by
  rw [Bool.eq_iff_iff, mem_iff]
  simp [mem_iff]
theorem size_law (K R A c : List ByteArray) (hc : c.Nodup) (h : ∀ x, mem c x = wantC K R A x) : c.length = cntK K R A K.length + cntA K A A.length := by
  have e : cntK K R A K.length + cntA K A A.length = ((bld K K.length).filter (pK R A) ++ (bld A A.length).filter (pA K)).length := by rw [List.length_append]; rfl
  rw [e]
  refine same_len hc ?_ fun x => ?_
  · rw [List.nodup_append]
    refine ⟨(bld_nodup _ _).filter _, (bld_nodup _ _).filter _, fun a ha b hb => ?_⟩
    rintro rfl
    have h1 := (List.mem_filter.1 ha).1
    have h2 := (List.mem_filter.1 hb).2
    rw [← mem_iff, mem_bld, List.take_of_length_le (Nat.le_refl _)] at h1
    simp [pA, h1] at h2
  · rw [h x, mem_append, mem_filter, mem_filter, mem_bld, mem_bld, List.take_of_length_le (Nat.le_refl _), List.take_of_length_le (Nat.le_refl _)]
    unfold wantC pK pA
    cases mem K x <;> cases mem R x <;> cases mem A x <;> rfl
theorem cntK_le (K R A : List ByteArray) (k : Nat) : cntK K R A k ≤ k := Nat.le_trans (List.length_filter_le _ _) (bld_le K k)
theorem cntA_le (K A : List ByteArray) (k : Nat) : cntA K A k ≤ k := Nat.le_trans (List.length_filter_le _ _) (bld_le A k)

/-! ### zzCloneSize -/

def SizeIs (w : World) (m : Nat) (e : Ending) (w' : World) : Prop := e = .returned (.int .i64 m) ∧ w = w'
set_option maxRecDepth 100000 in
set_option maxHeartbeats 3200000 in
theorem clonesize_any (w : World) (a : Option Addr) (n c : Nat) (K : List ByteArray) (a2 : Option Addr) (n2 c2 : Nat) (R : List ByteArray) (a3 : Option Addr) (n3 c3 : Nat) (A : List ByteArray)
    (h : Strs w a n K) (h2 : Strs w a2 n2 R) (h3 : Strs w a3 n3 A) (hc : n ≤ c) (hc3 : n3 ≤ c3) (hb1 : n ≤ 1024) (hb3 : n3 ≤ 1024) :
    Calls Try.prog 15 #[.slice a n c, .slice a2 n2 c2, .slice a3 n3 c3] w (SizeIs w (cntK K R A n + cntA K A n3)) := by
  unfold SizeIs
  have m0 := h.2.1
  have H := Lib.hid h
  have H2 := Lib.hid h2
  have H3 := Lib.hid h3
  clear h h2 h3
  go_enter Try.func15, Try.ntmps15
  go_wp2_with fail
  go_loop [7, 8] (fun z i => ∃ k : Nat, k ≤ n ∧ z = .int .i64 (cntK K R A k : Nat) ∧ i = .int .i64 k) (fun _ i => n - (intOf i).toNat)
  case atStart => exact ⟨0, Nat.zero_le _, by simp [cntK, bld], rfl⟩
  case round =>
    obtain ⟨k, hk, rfl, rfl⟩ := hrel
    have hcl := cntK_le K R A k
    by_cases hlt : k < n
    · obtain ⟨s, b, off, hs, ha, hb, hcell⟩ := H.out.at hlt
      have hck : k ≤ c := by omega
      have I1 := Lib.hid (in_any w a k c (K.take k) s (H.out.take hk))
      have I2 := Lib.hid (in_any w a2 n2 c2 R s H2.out)
      have I3 := Lib.hid (in_any w a3 n3 c3 A s H3.out)
      have hf := filter_succ (pK R A) K k s hs
      subst ha
      clear hs
      cases m1 : mem (K.take k) s
      · cases m2 : mem R s
        · have HB := Lib.hid (show cntK K R A (k + 1) = cntK K R A k + 1 by unfold cntK; rw [hf]; simp [m1, pK, m2])
          rw [m1] at I1
          rw [m2] at I2
          clear hf m1 m2
          generalize cntK K R A k = j at *
          go_wp2_with fail
          refine I1.out.mono ?_
          rintro e w2 ⟨rfl, rfl⟩
          go_wp2_with fail
          refine I2.out.mono ?_
          rintro e w2 ⟨rfl, rfl⟩
          go_wp2_with fail
          go_round
          case rel => exact ⟨k + 1, by omega, by rw [HB.out]; go_num, by go_num⟩
          case measure => simp [intOf]; omega
        · cases m3 : mem A s
          · have HB := Lib.hid (show cntK K R A (k + 1) = cntK K R A k by unfold cntK; rw [hf]; simp [m1, pK, m2, m3])
            rw [m1] at I1
            rw [m2] at I2
            rw [m3] at I3
            clear hf m1 m2 m3
            generalize cntK K R A k = j at *
            go_wp2_with fail
            refine I1.out.mono ?_
            rintro e w2 ⟨rfl, rfl⟩
            go_wp2_with fail
            refine I2.out.mono ?_
            rintro e w2 ⟨rfl, rfl⟩
            go_wp2_with fail
            refine I3.out.mono ?_
            rintro e w2 ⟨rfl, rfl⟩
            go_wp2_with fail
            go_round
            case rel => exact ⟨k + 1, by omega, by rw [HB.out], by go_num⟩
            case measure => simp [intOf]; omega
          · have HB := Lib.hid (show cntK K R A (k + 1) = cntK K R A k + 1 by unfold cntK; rw [hf]; simp [m1, pK, m2, m3])
            rw [m1] at I1
            rw [m2] at I2
            rw [m3] at I3
            clear hf m1 m2 m3
            generalize cntK K R A k = j at *
            go_wp2_with fail
            refine I1.out.mono ?_
            rintro e w2 ⟨rfl, rfl⟩
            go_wp2_with fail
            refine I2.out.mono ?_
            rintro e w2 ⟨rfl, rfl⟩
            go_wp2_with fail
            refine I3.out.mono ?_
            rintro e w2 ⟨rfl, rfl⟩
            go_wp2_with fail
            go_round
            case rel => exact ⟨k + 1, by omega, by rw [HB.out]; go_num, by go_num⟩
            case measure => simp [intOf]; omega
      · have HB := Lib.hid (show cntK K R A (k + 1) = cntK K R A k by unfold cntK; rw [hf]; simp [m1])
        rw [m1] at I1
        clear hf m1
        generalize cntK K R A k = j at *
        go_wp2_with fail
        refine I1.out.mono ?_
        rintro e w2 ⟨rfl, rfl⟩
        go_wp2_with fail
        go_round
        case rel => exact ⟨k + 1, by omega, by rw [HB.out], by go_num⟩
        case measure => simp [intOf]; omega
    · obtain rfl : k = n := by omega
      generalize hj : cntK K R A k = j at *
      have HJ := Lib.hid hj
      clear hj
      go_wp2_with fail
      go_loop [7, 10] (fun z i => ∃ q : Nat, q ≤ n3 ∧ z = .int .i64 ((j + cntA K A q : Nat) : Int) ∧ i = .int .i64 q) (fun _ i => n3 - (intOf i).toNat)
      case atStart => exact ⟨0, Nat.zero_le _, by simp [cntA, bld], rfl⟩
      case round =>
        obtain ⟨q, hq, rfl, rfl⟩ := hrel
        have hcl2 := cntA_le K A q
        by_cases hlt3 : q < n3
        · obtain ⟨s, b, off, hs, ha, hb, hcell⟩ := H3.out.at hlt3
          have hck : q ≤ c3 := by omega
          have I1 := Lib.hid (in_any w a k c K s H.out)
          have I3 := Lib.hid (in_any w a3 q c3 (A.take q) s (H3.out.take hq))
          have hf := filter_succ (pA K) A q s hs
          subst ha
          clear hs
          cases m1 : mem K s
          · cases m3 : mem (A.take q) s
            · have HB := Lib.hid (show cntA K A (q + 1) = cntA K A q + 1 by unfold cntA; rw [hf]; simp [m1, pA, m3])
              rw [m1] at I1
              rw [m3] at I3
              clear hf m1 m3
              generalize cntA K A q = j2 at *
              go_wp2_with fail
              refine I1.out.mono ?_
              rintro e w2 ⟨rfl, rfl⟩
              go_wp2_with fail
              refine I3.out.mono ?_
              rintro e w2 ⟨rfl, rfl⟩
              go_wp2_with fail
              go_round
              case rel => exact ⟨q + 1, by omega, by rw [HB.out]; go_num, by go_num⟩
              case measure => simp [intOf]; omega
            · have HB := Lib.hid (show cntA K A (q + 1) = cntA K A q by unfold cntA; rw [hf]; simp [m3])
              rw [m1] at I1
              rw [m3] at I3
              clear hf m1 m3
              generalize cntA K A q = j2 at *
              go_wp2_with fail
              refine I1.out.mono ?_
              rintro e w2 ⟨rfl, rfl⟩
              go_wp2_with fail
              refine I3.out.mono ?_
              rintro e w2 ⟨rfl, rfl⟩
              go_wp2_with fail
              go_round
              case rel => exact ⟨q + 1, by omega, by rw [HB.out]; go_num, by go_num⟩
              case measure => simp [intOf]; omega
          · have HB := Lib.hid (show cntA K A (q + 1) = cntA K A q by unfold cntA; rw [hf]; simp [pA, m1])
            rw [m1] at I1
            clear hf m1
            generalize cntA K A q = j2 at *
            go_wp2_with fail
            refine I1.out.mono ?_
            rintro e w2 ⟨rfl, rfl⟩
            go_wp2_with fail
            go_round
            case rel => exact ⟨q + 1, by omega, by rw [HB.out]; go_num, by go_num⟩
            case measure => simp [intOf]; omega
        · obtain rfl : q = n3 := by omega
          go_wp2_with fail
          go_ret
          exact ⟨by rw [HJ.out]; rfl, rfl⟩
end Go.Proofs.Ytnmedoekbcbgbaa
