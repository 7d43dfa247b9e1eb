/- The walk of the law that stripping comments keeps exactly the line ends. -/
import Derived.Test.YtofhjpmkpgbgiaaStr
import Derived.Test.YtofhjpmkpgbgiaaGrd
import Derived.Test.YtofhjpmkpgbgiaaSiz
namespace Go.Proofs.Ytofhjpmkpgbgiaa
open Go.RowKit
set_option linter.unusedVariables false

def cnt (es : List LE) (k : Nat) : Nat := (strip (es.take k)).length
theorem cnt_hit (es : List LE) (k : Nat) (e : LE) (he : es[k]? = some e) (hk : e.kind = 0) : cnt es (k + 1) = cnt es k + 1 := by
  have := congrArg List.length (bareL_hit es k e he hk)
  simpa [bareL, cnt] using this
theorem cnt_miss (es : List LE) (k : Nat) (e : LE) (he : es[k]? = some e) (hk : e.kind ≠ 0) : cnt es (k + 1) = cnt es k := by
  have := congrArg List.length (bareL_miss es k e he hk)
  simpa [bareL, cnt] using this
theorem cnt_le (es : List LE) (k : Nat) : cnt es k ≤ k := by
  have := bareL_le es k
  simpa [bareL, cnt] using this
theorem strip_append (a b : List LE) : strip (a ++ b) = strip a ++ strip b := by simp [strip]
theorem cnt_at (es : List LE) (k : Nat) (e : LE) (he : es[k]? = some e) (hk : e.kind = 0) : (strip es)[cnt es k]? = some ⟨0, e.blanks, e.indent, none⟩ := by
  have hl := (List.getElem?_eq_some_iff.1 he).1
  have h1 : strip es = strip (es.take k) ++ strip (es.drop k) := by rw [← strip_append, List.take_append_drop]
  have h2 : es.drop k = e :: es.drop (k + 1) := by
    rw [List.drop_eq_getElem_cons hl]
    congr 1
    exact (List.getElem?_eq_some_iff.1 he).2
  rw [h1, List.getElem?_append_right (show (strip (es.take k)).length ≤ cnt es k from Nat.le_refl _)]
  simp only [cnt, Nat.sub_self]
  rw [h2]
  simp [strip, hk]
theorem cnt_full (es : List LE) (n : Nat) (hn : es.length = n) : cnt es n = (strip es).length := by
  unfold cnt
  rw [List.take_of_length_le (by omega)]

set_option maxRecDepth 100000 in
set_option maxHeartbeats 3200000 in
theorem law36 (a : Option Addr) (n c : Nat) (zs : List ZE) (w : World) (h : IsZs w a n c zs) : Calls Try.prog 7 #[.slice a n c] w fun e w' => e = .returned (.bool true) ∧ Below w.heap.size w w' := by
  have G := Lib.hid (guard24 w a n c zs h)
  have SZ := Lib.hid (size_any w a n c zs h)
  have H := Lib.hid h
  clear h
  go_enter Try.func7, Try.ntmps7
  go_wp2_with fail
  refine G.out.mono ?_
  rintro e w1 ⟨r, rfl, rfl, hr⟩
  cases r
  · go_wp2_with fail
    go_ret
    exact ⟨rfl, Below.refl _ _⟩
  have HR := Lib.hid (hr rfl)
  clear hr G
  go_wp2_with fail
  refine SZ.out.mono ?_
  rintro e w1 ⟨m, rfl, rfl, hm⟩
  clear SZ
  by_cases hm2 : 1048576 < m
  · go_wp2_with fail
    go_ret
    exact ⟨rfl, Below.refl _ _⟩
  have hz := HR.out (n, zs) (by simp)
  have T := Lib.hid fun w' (hw : IsZs w' a n c zs) => tofod_any w' a n c zs hw hz.1 hz.2
  clear HR hz
  generalize inF a zs = f at *
  go_wp2_with fail
  refine (T.out w H.out).mono ?_
  rintro e w1 ⟨v, rfl, hv, hb⟩
  obtain ⟨x, cx, rfl, hle, _, _⟩ := hv.open
  generalize (f.getD []).length = lx at *
  have HB := Lib.hid hb
  have HV := Lib.hid hv
  clear hv hb
  have hws := HB.out.size
  have HBa := Lib.hid (HB.out.alloc hws (.cells #[.slice x lx cx] 26))
  have HI := Lib.hid (H.out.below HBa.out)
  have HP := Lib.hid (Blk.new w1 26 #[.slice x lx cx])
  have HVa := Lib.hid (HV.out.keep (Agree.alloc _ w1 (.cells #[.slice x lx cx] 26) fun b h => h.2))
  have hsz : (w1.alloc (.cells #[.slice x lx cx] 26)).heap.size = w1.heap.size + 1 := by simp
  go_wp2_with fail
  generalize w1.alloc (.cells #[.slice x lx cx] 26) = W at *
  refine (T.out W HI.out).mono ?_
  rintro e w2 ⟨v2, rfl, hv2, hb2⟩
  obtain ⟨y, cy, rfl, hle2, hfo, _⟩ := hv2.open
  have HFO := Lib.hid hfo
  generalize hes : f.getD [] = es at *
  generalize hlen : es.length = ly at *
  have HLEN := Lib.hid hlen
  have HES := Lib.hid hes
  have HB2 := Lib.hid (HBa.out.trans (hb2.mono HBa.out.size))
  have HP2 := Lib.hid (HP.out.under hb2)
  have HV2 := Lib.hid (HVa.out.keep (Agree.of_below hb2 fun b h => by have := h.2; omega))
  have hs2 := hb2.size
  clear hv2 hb2 hfo hlen hes T HI H HB HV HBa HP HVa
  have HPa := Lib.hid (HP2.out.alloc (.cells #[] 32))
  have HVb := Lib.hid (HV2.out.keep (Agree.alloc _ w2 (.cells #[] 32) fun b h => by have := h.2; omega))
  have HFOa := Lib.hid (HFO.out.keep (Agree.alloc _ w2 (.cells #[] 32) fun b h => h.2))
  have HB2a := Lib.hid (HB2.out.alloc HB2.out.size (.cells #[] 32))
  have hsz2 : (w2.alloc (.cells #[] 32)).heap.size = w2.heap.size + 1 := by simp
  go_wp2_with fail
  generalize w2.alloc (.cells #[] 32) = W2 at *
  refine (strip_any W2 _ _ _ (New w w1) f HPa.out HVb.out (fun b h => by have := h.2; omega)).mono ?_
  rintro e w3 ⟨rfl, v3, hp3, hf3, hg3⟩
  rw [HES.out] at hf3
  obtain ⟨x3, cx3, rfl, hle3, hfi3⟩ := hf3
  generalize hl3 : (strip es).length = l3 at *
  have HL3 := Lib.hid hl3
  have HP3 := Lib.hid hp3
  have HF3 := Lib.hid hfi3
  have HFO3 := Lib.hid (HFOa.out.keep (Agree.of_grown hg3 fun b h => ⟨by have := h.2; omega, by have := h.1; simp; omega⟩))
  have HB3 := Lib.hid (HB2a.out.grown hg3 HB2a.out.size (by intro q hq; injection hq with hq; omega))
  have hs3 := hg3.size
  have c3 := hp3.cell 0
  simp at c3
  have n3 : ∀ W, (binOp .eql 26 (.slice (some x3) l3 cx3) (.slice none 0 0)).run Try.prog W = .ok (.bool false) W := fun W => by kernel_rfl
  clear hp3 hfi3 hg3 hl3 HPa HVb HFOa HB2a HFO HB2 HP2 HV2
  go_wp2_with fail
  go_loopw [6, 7] (fun j i wr => ∃ k : Nat, k ≤ ly ∧ j = .int .i64 (cnt es k) ∧ i = .int .i64 k ∧ Hid (Below w3.heap.size w3 wr)) (fun _ i _ => ly - (intOf i).toNat)
  case atStart => exact ⟨0, Nat.zero_le _, rfl, rfl, Lib.hid (Below.refl _ _)⟩
  case round =>
    obtain ⟨k, hk, rfl, rfl, hbel⟩ := hrel
    have hcl := cnt_le es k
    have hp3l := HP3.out.lt
    have cw := (HP3.out.under hbel.out).cell 0
    simp at cw
    by_cases hlt : k < ly
    · obtain ⟨e, he⟩ : ∃ e, es[k]? = some e := ⟨es[k]'(by rw [HLEN.out]; exact hlt), by simp⟩
      obtain ⟨b, off, com, hx, hb, hcm, x0, x1, x2, x3'⟩ := (HFO3.out.keep (Agree.of_below hbel.out fun b h => by have := h.2; omega)).at he
      subst hx
      have hbw : b < wr.heap.size := by have := hb.2; have := hbel.out.size; omega
      by_cases hkd : e.kind = 0
      · have hat := cnt_at es k e he hkd
        obtain ⟨b2, off2, com2, hx2, hb2, hcm2, y0, y1, y2, y3⟩ := (HF3.out.keep (Agree.of_below hbel.out fun b h => h.2)).at hat
        obtain rfl : x3 = _ := Option.some.inj hx2
        obtain rfl : com2 = .slice none 0 0 := hcm2
        have hjl : cnt es k < l3 := by rw [← HL3.out]; exact (List.getElem?_eq_some_iff.1 hat).1
        have hcs := Lib.hid (cnt_hit es k e he hkd)
        have hb2w : b2 < wr.heap.size := by have := hb2.2; have := hbel.out.size; omega
        have BA := (Below.refl wr.heap.size wr).alloc (Nat.le_refl _) (.cells #[.slice none 0 0, .int .i64 0, .int .i64 e.blanks, .int .i64 e.indent] 50)
        clear he hat hcm hx2
        obtain ⟨kd, bl, ind, cm⟩ := e
        simp only at x0 x1 x2 x3' y0 y1 y2 y3 hkd BA
        subst hkd
        have n4 : ∀ W, (binOp .neq 48 (.slice none 0 0) (.slice none 0 0)).run Try.prog W = .ok (.bool false) W := fun W => by kernel_rfl
        generalize cnt es k = j at *
        go_wp2_with fail
        go_quiet (fail)
        go_wp2
        go_roundw
        case rel =>
          refine ⟨k + 1, by omega, by rw [hcs.out]; go_num, by go_num, Lib.hid ?_⟩
          have hb9 := hbel.out.trans (BA.mono hbel.out.size)
          exact ⟨hb9.os, hb9.tape, hb9.output, hb9.size, hb9.block⟩
        case measure => simp [intOf]; omega
      · have hcs := Lib.hid (cnt_miss es k e he hkd)
        clear he hcm
        obtain ⟨kd, bl, ind, cm⟩ := e
        simp only at x0 x1 x2 x3' hkd
        go_wp2
        go_roundw
        case rel => exact ⟨k + 1, by omega, by rw [hcs.out], by go_num, hbel⟩
        case measure => simp [intOf]; omega
    · obtain rfl : k = ly := by omega
      have hfull : cnt es k = l3 := by rw [cnt_full es k HLEN.out, HL3.out]
      have HBF := Lib.hid (HB3.out.trans (hbel.out.mono HB3.out.size))
      rw [hfull]
      go_wp2
      go_ret
      exact ⟨by simp, HBF.out⟩
end Go.Proofs.Ytofhjpmkpgbgiaa
