/- setIndents: what it leaves, in plain words and in the walk. -/
import Derived.Test.YtkeiaonpgcbciaaFod
import Derived.Test.YtkeiaonpgcbciaaArgs
import Derived.OwnWalk
import Derived.Lib.BufferOwn
namespace Go.Proofs.Ytkeiaonpgcbciaa
open Go.RowKit
set_option linter.unusedVariables false

/-! ### the plain function -/

/-- How many of the first k kinds are not interstitial. -/
def cntK (ks : List Int) (k : Nat) : Nat := (ks.take k).countP (· != 1)
theorem cntK_zero (ks : List Int) : cntK ks 0 = 0 := by simp [cntK]
theorem cntK_yes (ks : List Int) (k : Nat) (x : Int) (h : ks[k]? = some x) (hx : (x != 1) = true) : cntK ks (k + 1) = cntK ks k + 1 := by
  unfold cntK
  rw [List.take_add_one, h, List.countP_append]
  simp [hx]
theorem cntK_no (ks : List Int) (k : Nat) (x : Int) (h : ks[k]? = some x) (hx : (x != 1) = false) : cntK ks (k + 1) = cntK ks k := by
  unfold cntK
  rw [List.take_add_one, h, List.countP_append]
  simp [hx]
theorem cntK_le (ks : List Int) (k : Nat) : cntK ks k ≤ k := by
  unfold cntK
  refine Nat.le_trans List.countP_le_length ?_
  simp
  omega
theorem cntK_mono (ks : List Int) (k m : Nat) (h : k ≤ m) : cntK ks k ≤ cntK ks m := by
  unfold cntK
  rw [show k = min k m by omega, ← List.take_take]
  exact List.Sublist.countP_le (List.take_sublist _ _)

def upd (ks : List Int) (a b : Int) (k : Nat) (e : El) : El := if e.kind = 1 then e else ⟨e.com, e.kind, e.blanks, if cntK ks k + 1 < cntK ks ks.length then a else b⟩
def kindsF (es : List El) : List Int := es.map El.kind
def setI (es : List El) (a b : Int) : List El := es.mapIdx (upd (kindsF es) a b)
theorem upd_kind (ks : List Int) (a b : Int) (k : Nat) (e : El) : (upd ks a b k e).kind = e.kind := by unfold upd; split <;> rfl
theorem upd_blanks (ks : List Int) (a b : Int) (k : Nat) (e : El) : (upd ks a b k e).blanks = e.blanks := by unfold upd; split <;> rfl
theorem upd_com (ks : List Int) (a b : Int) (k : Nat) (e : El) : (upd ks a b k e).com = e.com := by unfold upd; split <;> rfl
theorem setI_len (es : List El) (a b : Int) : (setI es a b).length = es.length := by simp [setI]
theorem setI_at (es : List El) (a b : Int) (k : Nat) : (setI es a b)[k]? = es[k]?.map (upd (kindsF es) a b k) := by simp [setI]
theorem setI_kinds (es : List El) (a b : Int) : kindsF (setI es a b) = kindsF es := by
  apply List.ext_getElem?
  intro k
  simp only [kindsF, List.getElem?_map, setI_at, Option.map_map]
  congr 1
  funext e
  exact upd_kind _ _ _ _ _
theorem setI_setI (es : List El) (a b a' b' : Int) : setI (setI es a b) a' b' = setI es a' b' := by
  apply List.ext_getElem?
  intro k
  rw [setI_at, setI_at, setI_at, setI_kinds, Option.map_map]
  congr 1
  funext e
  simp only [Function.comp_apply]
  unfold upd
  by_cases h : e.kind = 1 <;> simp [h]

/-- The first k elements of A, the others of B. -/
def mix (A B : List El) (k : Nat) : List El := A.take k ++ B.drop k
theorem mix_zero (A B : List El) : mix A B 0 = B := by simp [mix]
theorem mix_all (A B : List El) (k : Nat) (hA : A.length ≤ k) (hB : B.length ≤ k) : mix A B k = A := by simp [mix, List.take_of_length_le hA, List.drop_eq_nil_of_le hB]
theorem mix_at (A B : List El) (k : Nat) (h : A.length = B.length) (hk : k < B.length) : (mix A B k)[k]? = B[k]? := by
  unfold mix
  rw [List.getElem?_append_right (by simp; omega), List.getElem?_drop]
  congr 1
  simp
  omega
theorem mix_set (A B : List El) (k : Nat) (e : El) (h : A.length = B.length) (he : A[k]? = some e) : (mix A B k).set k e = mix A B (k + 1) := by
  obtain ⟨hk, hk2⟩ := List.getElem?_eq_some_iff.1 he
  unfold mix
  rw [List.set_append_right _ _ (by simp; omega), List.take_add_one, he]
  have h1 : k - (A.take k).length = 0 := by simp; omega
  rw [h1, List.drop_eq_getElem_cons (by omega : k < B.length), List.set_cons_zero]
  simp
theorem mix_same (A B : List El) (k : Nat) (e : El) (h : A.length = B.length) (hA : A[k]? = some e) (hB : B[k]? = some e) : mix A B (k + 1) = mix A B k := by
  obtain ⟨hk, hk2⟩ := List.getElem?_eq_some_iff.1 hB
  unfold mix
  rw [List.take_add_one, hA, List.drop_eq_getElem_cons hk, hk2]
  simp

/-! ### the walk -/

theorem blk_at {w : World} {g : Nat} {es : List El} (h : Blk w g 38 (cellsF es).toArray) {k : Nat} {e : El} (he : es[k]? = some e) :
    w.cell? ⟨g, k * 4, none⟩ = some e.com ∧ w.cell? ⟨g, k * 4 + 1, none⟩ = some (.int .i64 e.kind) ∧ w.cell? ⟨g, k * 4 + 2, none⟩ = some (.int .i64 e.blanks) ∧ w.cell? ⟨g, k * 4 + 3, none⟩ = some (.int .i64 e.indent) := by
  refine ⟨?_, ?_, ?_, ?_⟩ <;> rw [h.cell, List.getElem?_toArray]
  · exact cellsF_com es k e he
  · exact cellsF_kind es k e he
  · exact cellsF_blanks es k e he
  · exact cellsF_indent es k e he

/-- The comment of every element is one cell. -/
def Coms (es : List El) : Prop := ∀ e ∈ es, ∃ a l c, e.com = .slice a l c

set_option maxRecDepth 100000 in
set_option maxHeartbeats 3200000 in
theorem setInd_any (w : World) (p : Addr) (g n : Nat) (es : List El) (a b : Int) (hlen : es.length = n) (hn : n ≤ 1048576) (hco : Coms es) (hB : Blk w g 38 (cellsF es).toArray) :
    Calls Try.prog 20 #[.pointer (some p), .slice (some ⟨g, 0, none⟩) n n, .int .i64 a, .int .i64 b] w fun e w' => e = .returned (.tuple #[]) ∧ Blk w' g 38 (cellsF (setI es a b)).toArray ∧ w.grownBy w' (some g) := by
  have hg := hB.lt
  have HB := Lib.hid hB
  have HL := Lib.hid hlen
  have HC := Lib.hid hco
  clear hB hlen hco
  have hcn : cntK (kindsF es) n ≤ n := cntK_le _ _
  have HLK := Lib.hid (show (kindsF es).length = n by simp [kindsF, HL.out])
  go_enter Try.func20, Try.ntmps20
  go_wp2_with fail
  go_loopw [8, 16] (fun c i wr => ∃ k : Nat, k ≤ n ∧ c = .int .i64 (cntK (kindsF es) k) ∧ i = .int .i64 k ∧ Hid (Below w.heap.size w wr)) (fun _ i _ => n - (intOf i).toNat)
  case atStart => exact ⟨0, Nat.zero_le _, by rw [cntK_zero]; rfl, rfl, Lib.hid (Below.refl _ _)⟩
  case round =>
    obtain ⟨k, hk, rfl, rfl, hbel⟩ := hrel
    by_cases hlt : k < n
    · obtain ⟨e, he⟩ : ∃ e, es[k]? = some e := ⟨es[k]'(by rw [HL.out]; omega), by simp⟩
      obtain ⟨x0, x1, x2, x3⟩ := blk_at (HB.out.under hbel.out) he
      obtain ⟨ca, cl, cc, hcm⟩ := HC.out e (List.mem_of_getElem? he)
      obtain ⟨ec, ek, eb, ei⟩ := e
      simp only at hcm x0 x1 x2 x3
      subst hcm
      have hkk : (kindsF es)[k]? = some ek := by simp [kindsF, he]
      have hkn := cntK_le (kindsF es) k
      have HBK := Lib.hid ((hbel.out.alloc hbel.out.size (.cells #[.slice ca cl cc, .int .i64 ek, .int .i64 eb, .int .i64 ei] 38)))
      clear he
      by_cases h1 : (ek != 1) = true
      · have HN := Lib.hid (cntK_yes _ _ _ hkk h1)
        clear hkk
        go_wp2_with fail
        go_roundw
        case rel => exact ⟨k + 1, by omega, by rw [HN.out]; go_num, by go_num, HBK⟩
        case measure => simp [intOf]; omega
      · have h1' : (ek != 1) = false := by simpa using h1
        have HN := Lib.hid (cntK_no _ _ _ hkk h1')
        clear hkk h1
        go_wp2_with fail
        go_roundw
        case rel => exact ⟨k + 1, by omega, by rw [HN.out], by go_num, HBK⟩
        case measure => simp [intOf]; omega
    · have hkn : k = n := by omega
      subst hkn
      have HBR := Lib.hid (HB.out.under hbel.out)
      have HS := Lib.hid hbel.out.size
      have HGR := Lib.hid (Lib.grownBy_below (World.grownBy.refl w (some g)) hbel.out)
      clear hbel
      go_wp2_with fail
      go_loopw [11, 28] (fun c i ws => ∃ m : Nat, m ≤ k ∧ c = .int .i64 (cntK (kindsF es) m) ∧ i = .int .i64 m ∧ Hid (Blk ws g 38 (cellsF (mix (setI es a b) es m)).toArray) ∧ Hid (w.grownBy ws (some g))) (fun _ i _ => k - (intOf i).toNat)
      case atStart => exact ⟨0, Nat.zero_le _, by rw [cntK_zero]; rfl, rfl, Lib.hid (by rw [mix_zero]; exact HBR.out), HGR⟩
      case round =>
        obtain ⟨m, hm, rfl, rfl, hblk, hgr⟩ := hrel
        clear HBR HGR HS
        by_cases hlt : m < k
        · obtain ⟨e, he⟩ : ∃ e, es[m]? = some e := ⟨es[m]'(by rw [HL.out]; omega), by simp⟩
          obtain ⟨x0, x1, x2, x3⟩ := blk_at hblk.out ((mix_at (setI es a b) es m (setI_len _ _ _) (by rw [HL.out]; omega)).trans he)
          have hfz := hblk.out.free (m * 4 + 3)
          have hA := setI_at es a b m
          rw [he] at hA
          simp only [Option.map_some, upd, HLK.out] at hA
          obtain ⟨ec, ek, eb, ei⟩ := e
          simp only at hA x0 x1 x2 x3
          have hkk : (kindsF es)[m]? = some ek := by simp [kindsF, he]
          have hkn := cntK_le (kindsF es) m
          have HE := Lib.hid he
          clear he x0 x2
          by_cases h1 : (ek != 1) = true
          · have HN := Lib.hid (cntK_yes _ _ _ hkk h1)
            have hN2 : cntK (kindsF es) m + 1 ≤ cntK (kindsF es) k := by rw [← HN.out]; exact cntK_mono _ _ _ (by omega)
            rw [if_neg (by simpa using h1)] at hA
            by_cases h2 : cntK (kindsF es) m + 1 < cntK (kindsF es) k
            · rw [if_pos h2] at hA
              have HA := Lib.hid hA
              clear hkk hA
              go_wp2_with fail
              go_roundw
              case rel =>
                refine ⟨m + 1, by omega, by rw [HN.out]; go_num, by go_num, Lib.hid ?_, Lib.hid (Lib.grownBy_setB hgr.out _ _)⟩
                have := hblk.out.set (m * 4 + 3) (.int .i64 a)
                rw [cellsF_set _ m 3 _ ⟨ec, ek, eb, a⟩ _ ((mix_at (setI es a b) es m (setI_len _ _ _) (by rw [HL.out]; omega)).trans HE.out) (by omega) rfl, mix_set _ _ _ _ (setI_len _ _ _) HA.out] at this
                exact this
              case measure => simp [intOf]; omega
            · have h3 : cntK (kindsF es) k = cntK (kindsF es) m + 1 := by omega
              have h4 : (((cntK (kindsF es) m : Nat) : Int) != ((cntK (kindsF es) k : Nat) : Int) - 1) = false := by rw [h3]; simp
              rw [if_neg h2] at hA
              have HA := Lib.hid hA
              clear hkk hA h3
              go_wp2_with fail
              go_roundw
              case rel =>
                refine ⟨m + 1, by omega, by rw [HN.out]; go_num, by go_num, Lib.hid ?_, Lib.hid (Lib.grownBy_setB hgr.out _ _)⟩
                have := hblk.out.set (m * 4 + 3) (.int .i64 b)
                rw [cellsF_set _ m 3 _ ⟨ec, ek, eb, b⟩ _ ((mix_at (setI es a b) es m (setI_len _ _ _) (by rw [HL.out]; omega)).trans HE.out) (by omega) rfl, mix_set _ _ _ _ (setI_len _ _ _) HA.out] at this
                exact this
              case measure => simp [intOf]; omega
          · have h1' : (ek != 1) = false := by simpa using h1
            rw [if_pos (by simpa using h1)] at hA
            have HA := Lib.hid hA
            have HN := Lib.hid (cntK_no _ _ _ hkk h1')
            clear hkk h1 hA
            go_wp2_with fail
            go_roundw
            case rel => exact ⟨m + 1, by omega, by rw [HN.out], by go_num, Lib.hid (by rw [mix_same _ _ _ _ (setI_len _ _ _) HA.out HE.out]; exact hblk.out), hgr⟩
            case measure => simp [intOf]; omega
        · have hkm : m = k := by omega
          have HKM := Lib.hid hkm
          clear hkm
          go_wp2_with fail
          go_end0
          refine ⟨rfl, ?_, hgr.out⟩
          have := hblk.out
          rw [HKM.out, mix_all _ _ _ (by rw [setI_len, HL.out]; omega) (by rw [HL.out]; omega)] at this
          exact this
end Go.Proofs.Ytkeiaonpgcbciaa
