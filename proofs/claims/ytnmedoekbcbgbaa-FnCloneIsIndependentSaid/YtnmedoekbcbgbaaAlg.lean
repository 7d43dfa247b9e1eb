/- zzAllAgree. -/
import Derived.Test.YtnmedoekbcbgbaaAll
namespace Go.Proofs.Ytnmedoekbcbgbaa
open Go.RowKit
set_option linter.unusedVariables false

section
variable {w : World} {B1 B2 n1 n2 : Nat} {ss cs : List ByteArray} {am : Option Addr} {nm : Nat} {M : List ByteArray} {ak : Option Addr} {nk : Nat} {K : List ByteArray} {ar : Option Addr} {nr : Nat} {R : List ByteArray} {aa : Option Addr} {na : Nat} {A : List ByteArray}
set_option maxRecDepth 100000 in
set_option maxHeartbeats 3200000 in
theorem allagree_any (h : Two w B1 B2 n1 n2 ss cs am nm M ak nk K ar nr R aa na A) (hxK : ∀ x ∈ K, x.size ≤ maxLen) (hxR : ∀ x ∈ R, x.size ≤ maxLen) (hxA : ∀ x ∈ A, x.size ≤ maxLen) (cm ck cr ca : Nat) :
    Calls Try.prog 16 #[.map (some B1), .map (some B2), .slice am nm cm, .slice ak nk ck, .slice ar nr cr, .slice aa na ca] w (Yes w) := by
  unfold Yes
  have m1 := h.hK.2.1
  have m2 := h.hR.2.1
  have m3 := h.hA.2.1
  have H := Lib.hid h
  have HXK := Lib.hid hxK
  have HXR := Lib.hid hxR
  have HXA := Lib.hid hxA
  clear h hxK hxR hxA
  go_enter Try.func16, Try.ntmps16
  go_wp2_with fail
  go_loopw [13] (fun i wr => ∃ k : Nat, k ≤ nk ∧ i = .int .i64 k ∧ Hid (Below w.heap.size w wr)) (fun i _ => nk - (intOf i).toNat)
  case atStart => exact ⟨0, Nat.zero_le _, rfl, Lib.hid (Below.refl _ _)⟩
  case round =>
    obtain ⟨k13, hk13, rfl, hbel13⟩ := hrel
    by_cases hlt13 : k13 < nk
    · have HT := Lib.hid (H.out.below hbel13.out)
      obtain ⟨x, b, off, hs, ha, hb, hcell⟩ := HT.out.hK.at hlt13
      have K := Lib.hid (agrees_any HT.out x (HXK.out x (List.mem_of_getElem? hs)) cm ck cr ca)
      subst ha
      clear hs HT
      go_wp2_with fail
      refine K.out.mono ?_
      rintro e w4 ⟨rfl, hb4⟩
      have HB4 := Lib.hid (hbel13.out.trans (hb4.mono hbel13.out.size))
      clear hb4 K
      go_wp2_with fail
      go_roundw
      case rel => exact ⟨k13 + 1, by omega, by go_num, HB4⟩
      case measure => simp [intOf]; omega
    · go_wp2_with fail
      go_loopw [14] (fun i wr => ∃ k : Nat, k ≤ nr ∧ i = .int .i64 k ∧ Hid (Below w.heap.size w wr)) (fun i _ => nr - (intOf i).toNat)
      case atStart => exact ⟨0, Nat.zero_le _, rfl, hbel13⟩
      case round =>
        obtain ⟨k14, hk14, rfl, hbel14⟩ := hrel
        by_cases hlt14 : k14 < nr
        · have HT := Lib.hid (H.out.below hbel14.out)
          obtain ⟨x, b, off, hs, ha, hb, hcell⟩ := HT.out.hR.at hlt14
          have K := Lib.hid (agrees_any HT.out x (HXR.out x (List.mem_of_getElem? hs)) cm ck cr ca)
          subst ha
          clear hs HT
          go_wp2_with fail
          refine K.out.mono ?_
          rintro e w4 ⟨rfl, hb4⟩
          have HB4 := Lib.hid (hbel14.out.trans (hb4.mono hbel14.out.size))
          clear hb4 K
          go_wp2_with fail
          go_roundw
          case rel => exact ⟨k14 + 1, by omega, by go_num, HB4⟩
          case measure => simp [intOf]; omega
        · go_wp2_with fail
          go_loopw [15] (fun i wr => ∃ k : Nat, k ≤ na ∧ i = .int .i64 k ∧ Hid (Below w.heap.size w wr)) (fun i _ => na - (intOf i).toNat)
          case atStart => exact ⟨0, Nat.zero_le _, rfl, hbel14⟩
          case round =>
            obtain ⟨k15, hk15, rfl, hbel15⟩ := hrel
            by_cases hlt15 : k15 < na
            · have HT := Lib.hid (H.out.below hbel15.out)
              obtain ⟨x, b, off, hs, ha, hb, hcell⟩ := HT.out.hA.at hlt15
              have K := Lib.hid (agrees_any HT.out x (HXA.out x (List.mem_of_getElem? hs)) cm ck cr ca)
              subst ha
              clear hs HT
              go_wp2_with fail
              refine K.out.mono ?_
              rintro e w4 ⟨rfl, hb4⟩
              have HB4 := Lib.hid (hbel15.out.trans (hb4.mono hbel15.out.size))
              clear hb4 K
              go_wp2_with fail
              go_roundw
              case rel => exact ⟨k15 + 1, by omega, by go_num, HB4⟩
              case measure => simp [intOf]; omega
            · go_wp2_with fail
              go_ret
              exact ⟨rfl, hbel15.out⟩
end
end Go.Proofs.Ytnmedoekbcbgbaa
