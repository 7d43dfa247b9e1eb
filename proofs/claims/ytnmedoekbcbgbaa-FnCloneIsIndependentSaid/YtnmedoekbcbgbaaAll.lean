/- zzAgrees, zzAllAgree. -/
import Derived.Test.YtnmedoekbcbgbaaAgr
namespace Go.Proofs.Ytnmedoekbcbgbaa
open Go.RowKit
set_option linter.unusedVariables false

/-- The two sets and the four lists in one world. -/
structure Two (w : World) (B1 B2 n1 n2 : Nat) (ss cs : List ByteArray) (am : Option Addr) (nm : Nat) (M : List ByteArray) (ak : Option Addr) (nk : Nat) (K : List ByteArray) (ar : Option Addr) (nr : Nat) (R : List ByteArray) (aa : Option Addr) (na : Nat) (A : List ByteArray) : Prop where
  s : SetIs w B1 n1 ss
  c : SetIs w B2 n2 cs
  hM : Strs w am nm M
  hK : Strs w ak nk K
  hR : Strs w ar nr R
  hA : Strs w aa na A
  es : ∀ x, mem ss x = mem M x
  ec : ∀ x, mem cs x = wantC K R A x
section
variable {w : World} {B1 B2 n1 n2 : Nat} {ss cs : List ByteArray} {am : Option Addr} {nm : Nat} {M : List ByteArray} {ak : Option Addr} {nk : Nat} {K : List ByteArray} {ar : Option Addr} {nr : Nat} {R : List ByteArray} {aa : Option Addr} {na : Nat} {A : List ByteArray}
theorem Two.below (h : Two w B1 B2 n1 n2 ss cs am nm M ak nk K ar nr R aa na A) {w' : World} (hb : Below w.heap.size w w') : Two w' B1 B2 n1 n2 ss cs am nm M ak nk K ar nr R aa na A :=
  ⟨h.s.below hb, h.c.below hb, h.hM.below hb, h.hK.below hb, h.hR.below hb, h.hA.below hb, h.es, h.ec⟩

def Yes (w : World) (e : Ending) (w' : World) : Prop := e = .returned (.bool true) ∧ Below w.heap.size w w'
set_option maxRecDepth 100000 in
set_option maxHeartbeats 3200000 in
theorem agrees_any (h : Two w B1 B2 n1 n2 ss cs am nm M ak nk K ar nr R aa na A) (x : ByteArray) (hx : x.size ≤ maxLen) (cm ck cr ca : Nat) :
    Calls Try.prog 17 #[.map (some B1), .map (some B2), .string x, .slice am nm cm, .slice ak nk ck, .slice ar nr cr, .slice aa na ca] w (Yes w) := by
  unfold Yes
  have K1 := Lib.hid (contains_any w B1 n1 ss x h.s hx)
  rw [h.es x] at K1
  have K2 := Lib.hid fun w' (hb : Below w.heap.size w w') => in_any w' am nm cm M x (h.hM.below hb)
  have K3 := Lib.hid fun w' (hb : Below w.heap.size w w') => in_any w' ak nk ck K x (h.hK.below hb)
  have K4 := Lib.hid fun w' (hb : Below w.heap.size w w') => in_any w' ar nr cr R x (h.hR.below hb)
  have K5 := Lib.hid fun w' (hb : Below w.heap.size w w') => in_any w' aa na ca A x (h.hA.below hb)
  have K6 := Lib.hid fun w' (hb : Below w.heap.size w w') => contains_any w' B2 n2 cs x (h.c.below hb) hx
  have hec := h.ec x
  unfold wantC at hec
  rw [hec] at K6
  clear h hx hec
  generalize mem M x = bM at *
  generalize mem K x = bK at *
  generalize mem R x = bR at *
  generalize mem A x = bA at *
  cases bK
  · cases bM <;> cases bR <;> cases bA
    all_goals
      go_enter Try.func17, Try.ntmps17
      go_wp2_with fail
      refine K1.out.mono ?_
      rintro e w1 ⟨rfl, hb1⟩
      have HB1 := Lib.hid hb1
      clear hb1
      go_wp2_with fail
      refine (K2.out w1 HB1.out).mono ?_
      rintro e w2 ⟨rfl, rfl⟩
      go_wp2_with fail
      refine (K3.out w1 HB1.out).mono ?_
      rintro e w2 ⟨rfl, rfl⟩
      go_wp2_with fail
      refine (K5.out w1 HB1.out).mono ?_
      rintro e w2 ⟨rfl, rfl⟩
      go_wp2_with fail
      refine (K6.out w1 HB1.out).mono ?_
      rintro e w3 ⟨rfl, hb3⟩
      have HB3 := Lib.hid (HB1.out.trans (hb3.mono HB1.out.size))
      clear hb3
      go_wp2_with fail
      go_ret
      exact ⟨rfl, HB3.out⟩
  · cases bR
    · cases bM <;> cases bA
      all_goals
        go_enter Try.func17, Try.ntmps17
        go_wp2_with fail
        refine K1.out.mono ?_
        rintro e w1 ⟨rfl, hb1⟩
        have HB1 := Lib.hid hb1
        clear hb1
        go_wp2_with fail
        refine (K2.out w1 HB1.out).mono ?_
        rintro e w2 ⟨rfl, rfl⟩
        go_wp2_with fail
        refine (K3.out w1 HB1.out).mono ?_
        rintro e w2 ⟨rfl, rfl⟩
        go_wp2_with fail
        refine (K4.out w1 HB1.out).mono ?_
        rintro e w2 ⟨rfl, rfl⟩
        go_wp2_with fail
        refine (K6.out w1 HB1.out).mono ?_
        rintro e w3 ⟨rfl, hb3⟩
        have HB3 := Lib.hid (HB1.out.trans (hb3.mono HB1.out.size))
        clear hb3
        go_wp2_with fail
        go_ret
        exact ⟨rfl, HB3.out⟩
    · cases bM <;> cases bA
      all_goals
        go_enter Try.func17, Try.ntmps17
        go_wp2_with fail
        refine K1.out.mono ?_
        rintro e w1 ⟨rfl, hb1⟩
        have HB1 := Lib.hid hb1
        clear hb1
        go_wp2_with fail
        refine (K2.out w1 HB1.out).mono ?_
        rintro e w2 ⟨rfl, rfl⟩
        go_wp2_with fail
        refine (K3.out w1 HB1.out).mono ?_
        rintro e w2 ⟨rfl, rfl⟩
        go_wp2_with fail
        refine (K4.out w1 HB1.out).mono ?_
        rintro e w2 ⟨rfl, rfl⟩
        go_wp2_with fail
        refine (K5.out w1 HB1.out).mono ?_
        rintro e w2 ⟨rfl, rfl⟩
        go_wp2_with fail
        refine (K6.out w1 HB1.out).mono ?_
        rintro e w3 ⟨rfl, hb3⟩
        have HB3 := Lib.hid (HB1.out.trans (hb3.mono HB1.out.size))
        clear hb3
        go_wp2_with fail
        go_ret
        exact ⟨rfl, HB3.out⟩
end
end Go.Proofs.Ytnmedoekbcbgbaa
