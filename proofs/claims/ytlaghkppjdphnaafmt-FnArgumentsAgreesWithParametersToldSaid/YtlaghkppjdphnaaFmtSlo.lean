/- zzSlotOK answers true on what FixNewlines leaves. -/
import Derived.Test.YtlaghkppjdphnaaFmtSlt
namespace Go.Proofs.YtlaghkppjdphnaaFmt
open Go.RowKit
set_option linter.unusedVariables false

set_option maxRecDepth 100000 in
set_option maxHeartbeats 3200000 in
theorem slot15 (w : World) (v : Value) (a : Option Addr) (n c : Nat) (zs : List QE) (want : Bool) (hg : FodR w v (fix want (zs.map QE.le))) (h : IsQs w a n c zs) (hn : n ≤ 16384) (hok : ∀ z ∈ zs, OkQ z) :
    Calls Tryf.prog 15 #[v, .slice a n c, .bool want] w (Yes w) := by
  have hzl := h.1
  have KE := Lib.hid (ends38 w a n c zs h)
  have H := Lib.hid h
  have HOK := Lib.hid hok
  by_cases hx : want = true ∧ isClean (zs.map QE.le) = false
  · obtain ⟨rfl, hcl⟩ := hx
    have hfix : fix true (zs.map QE.le) = zs.map QE.le ++ [⟨0, 0, 0, some []⟩] := by simp [fix, ens, hcl]
    rw [hfix] at hg
    rw [hcl] at KE
    have KP := Lib.hid (fun w' (hb : Below w.heap.size w w') => pref39 w' v _ a n c zs (hg.below hb) (h.below hb) hok (by simp) (fun i z hz => by rw [List.getElem?_append_left (by rw [List.length_map]; exact (List.getElem?_eq_some_iff.1 hz).1), List.getElem?_map, hz]; rfl))
    obtain ⟨ga, gc, rfl, hgl, hgx⟩ := hg.open
    obtain ⟨b1, o1, com, e1, hb1, hcm, x0, x1, x2, x3⟩ := hgx.at (k := n) (e := ⟨0, 0, 0, some []⟩) (by rw [List.getElem?_append_right (by rw [List.length_map, hzl]; exact Nat.le_refl _), List.length_map, hzl, Nat.sub_self]; rfl)
    subst e1
    obtain ⟨cx, cp, rfl, -, -⟩ := hcm
    have hlen : (zs.map QE.le ++ [(⟨0, 0, 0, some []⟩ : LE)]).length = n + 1 := by simp [hzl]
    simp only [hlen, List.length_nil] at KP x0 ⊢
    have HX0 := Lib.hid x0
    have HX1 := Lib.hid x1
    have HX2 := Lib.hid x2
    have HX3 := Lib.hid x3
    have hid1 : (((n + 1 : Nat) : Int) - 1) = (n : Int) := by omega
    have hid2 : ((n : Int) + 1 - 1) = (n : Int) := by omega
    have hnn : (n : Int) < (n : Int) + 1 := by omega
    clear hg h hok hgx hfix hcl x0 x1 x2 x3 hlen
    unfold Yes
    go_enter Tryf.func15, Tryf.ntmps15
    go_wp2_with fail
    refine KE.out.mono ?_
    rintro e w1 ⟨rfl, rfl⟩
    go_wp2_with fail
    refine (KP.out w (Below.refl _ _)).mono ?_
    rintro e w1 ⟨rfl, hb⟩
    have B1 := Lib.hid hb
    have x0 := (hb.cell (p := ⟨b1, o1 + n * 4, none⟩) hb1).trans HX0.out
    have x1 := (hb.cell (p := ⟨b1, o1 + n * 4 + 1, none⟩) hb1).trans HX1.out
    have x2 := (hb.cell (p := ⟨b1, o1 + n * 4 + 2, none⟩) hb1).trans HX2.out
    have x3 := (hb.cell (p := ⟨b1, o1 + n * 4 + 3, none⟩) hb1).trans HX3.out
    have hb1w : b1 < w1.heap.size := Nat.lt_of_lt_of_le hb1 hb.size
    clear hb KP KE
    go_wp2_with fail
    go_ret
    exact ⟨rfl, B1.out.alloc B1.out.size _⟩
  · have hfix : fix want (zs.map QE.le) = zs.map QE.le := by
      unfold fix ens
      split
      · next hw => rw [if_pos (by cases hc : isClean (zs.map QE.le) with | true => rfl | false => exact absurd ⟨hw, hc⟩ hx)]
      · rfl
    rw [hfix] at hg
    have KP := Lib.hid (fun w' (hb : Below w.heap.size w w') => pref39 w' v _ a n c zs (hg.below hb) (h.below hb) hok (by simp) (fun i z hz => by rw [List.getElem?_map, hz]; rfl))
    obtain ⟨ga, gc, rfl, hgl, hgx⟩ := hg.open
    have hlen : (zs.map QE.le).length = n := by simp [hzl]
    simp only [hlen] at KP ⊢
    clear hg h hok hgx hfix hlen
    unfold Yes
    cases want with
    | false =>
      go_enter Tryf.func15, Tryf.ntmps15
      go_wp2_with fail
      refine (KP.out w (Below.refl _ _)).mono ?_
      rintro e w1 ⟨rfl, hb⟩
      have B1 := Lib.hid hb
      clear hb
      go_wp2_with fail
      go_ret
      exact ⟨rfl, B1.out⟩
    | true =>
      have hcl : isClean (zs.map QE.le) = true := by
        cases hc : isClean (zs.map QE.le) with
        | true => rfl
        | false => exact absurd ⟨rfl, hc⟩ hx
      rw [hcl] at KE
      clear hx hcl
      go_enter Tryf.func15, Tryf.ntmps15
      go_wp2_with fail
      refine KE.out.mono ?_
      rintro e w1 ⟨rfl, rfl⟩
      go_wp2_with fail
      refine (KP.out w (Below.refl _ _)).mono ?_
      rintro e w1 ⟨rfl, hb⟩
      have B1 := Lib.hid hb
      clear hb
      go_wp2_with fail
      go_ret
      exact ⟨rfl, B1.out⟩
end Go.Proofs.YtlaghkppjdphnaaFmt
