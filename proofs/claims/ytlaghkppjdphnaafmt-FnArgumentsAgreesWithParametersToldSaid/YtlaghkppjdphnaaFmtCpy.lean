/- zzEqFodder answers true on what reads alike; zzCopyFodder. -/
import Derived.Test.YtlaghkppjdphnaaFmtSlo
namespace Go.Proofs.YtlaghkppjdphnaaFmt
open Go.RowKit
set_option linter.unusedVariables false

def norm (e : LE) : LE := ⟨e.kind, e.blanks, e.indent, some (e.com.getD [])⟩
theorem norm_norm (es : List LE) : (es.map norm).map norm = es.map norm := by simp [norm, Function.comp_def]

set_option maxRecDepth 100000 in
set_option maxHeartbeats 3200000 in
theorem eq19 (w : World) (v1 v2 : Value) (es1 es2 : List LE) (h1 : FodR w v1 es1) (h2 : FodR w v2 es2) (h : es1.map norm = es2.map norm) : Calls Tryf.prog 19 #[v1, v2] w (Yes w) := by
  have hlen : es2.length = es1.length := by have := congrArg List.length h; simpa using this.symm
  obtain ⟨a, ca, rfl, hle, hx⟩ := h1.open
  obtain ⟨b, cb, rfl, _, hy⟩ := h2.open
  rw [hlen]
  generalize hn : es1.length = n at *
  have HN := Lib.hid hn
  have HN2 := Lib.hid hlen
  have HX := Lib.hid hx
  have HY := Lib.hid hy
  have HE := Lib.hid h
  clear h1 h2 hn hx hy h hlen
  unfold Yes
  go_enter Tryf.func19, Tryf.ntmps19
  go_wp2_with fail
  go_loopw [5] (fun i wr => ∃ k : Nat, k ≤ n ∧ i = .int .i64 k ∧ Hid (Below w.heap.size w wr)) (fun i _ => n - (intOf i).toNat)
  case atStart => exact ⟨0, Nat.zero_le _, rfl, Lib.hid (Below.refl _ _)⟩
  case round =>
    obtain ⟨k, hk, rfl, hbel⟩ := hrel
    obtain ⟨wo, hwo⟩ : ∃ wo, wo = wr := ⟨_, rfl⟩
    subst hwo
    by_cases hlt : k < n
    · obtain ⟨e, he⟩ : ∃ e, es1[k]? = some e := ⟨es1[k]'(by rw [HN.out]; exact hlt), by simp⟩
      obtain ⟨e', he'⟩ : ∃ e, es2[k]? = some e := ⟨es2[k]'(by rw [HN2.out]; exact hlt), by simp⟩
      have hee : norm e = norm e' := by
        have := congrArg (fun l => l[k]?) HE.out
        simpa [he, he'] using this
      have hag : Agree (fun b => b < w.heap.size) w wo := Agree.of_below hbel.out fun b h => h
      obtain ⟨b1, o1, m1, e1, hb1, hc1, x0, x1, x2, x3⟩ := (HX.out.keep hag).at he
      obtain ⟨b2, o2, m2, e2, hb2, hc2, y0, y1, y2, y3⟩ := (HY.out.keep hag).at he'
      subst e1 e2
      obtain ⟨kd, bl, ind, cm⟩ := e
      obtain ⟨kd', bl', ind', cm'⟩ := e'
      simp only [norm, LE.mk.injEq, Option.some.injEq] at hee
      obtain ⟨rfl, rfl, rfl, hcc⟩ := hee
      simp only at x0 x1 x2 x3 y0 y1 y2 y3 hc1 hc2
      obtain ⟨q1, q3, rfl, hq, hqr, _⟩ := hc1.open
      obtain ⟨r1, r3, rfl, _, hrr, _⟩ := hc2.open
      rw [← hcc] at hrr y0
      generalize cm.getD [] = ss at *
      generalize hl : ss.length = l at *
      have HL := Lib.hid hl
      have HQ := Lib.hid hqr
      have HR := Lib.hid hrr
      have HX0 := Lib.hid x0
      have HY0 := Lib.hid y0
      have hb1w : b1 < wo.heap.size := Nat.lt_of_lt_of_le hb1 hbel.out.size
      have hb2w : b2 < wo.heap.size := Nat.lt_of_lt_of_le hb2 hbel.out.size
      clear hc1 hc2 he he' hag hl hqr hrr hcc
      go_wp2_with fail
      go_quiet (fail)
      go_wp2_with fail
      go_quiet (fail)
      rename_i nq2
      generalize hW : (wo.drewN _).drewN _ = W at *
      have BW : Hid (Below w.heap.size w W) := Lib.hid (by rw [← hW]; exact ⟨hbel.out.os, hbel.out.tape, hbel.out.output, hbel.out.size, hbel.out.block⟩)
      have AW : Hid (Below wo.heap.size wo W) := Lib.hid (by rw [← hW]; exact ⟨rfl, rfl, rfl, Nat.le_refl _, fun _ _ => rfl⟩)
      clear hW x0 x1 x2 x3 y0 y1 y2 y3
      go_wp2_with fail
      go_loopw [6] (fun i wr => ∃ j : Nat, j ≤ l ∧ i = .int .i64 j ∧ Hid (Below wo.heap.size wo wr)) (fun i _ => l - (intOf i).toNat)
      case atStart => exact ⟨0, Nat.zero_le _, rfl, AW⟩
      case round =>
        obtain ⟨j, hj, rfl, hbl2⟩ := hrel
        have u0 := (hbl2.out.cell (p := ⟨b1, o1 + k * 4, none⟩) hb1w).trans HX0.out
        have t0 := (hbl2.out.cell (p := ⟨b2, o2 + k * 4, none⟩) hb2w).trans HY0.out
        have hb1r : b1 < wr.heap.size := Nat.lt_of_lt_of_le hb1w hbl2.out.size
        have hb2r : b2 < wr.heap.size := Nat.lt_of_lt_of_le hb2w hbl2.out.size
        by_cases hjt : j < l
        · obtain ⟨s, hs⟩ : ∃ s, ss[j]? = some s := ⟨ss[j]'(by rw [HL.out]; exact hjt), by simp⟩
          obtain ⟨b3, o3, e3, hb3, hc3⟩ := HQ.out.pos (by simp [HL.out]; omega)
          obtain ⟨b4, o4, e4, hb4, hc4⟩ := HR.out.pos (by simp [HL.out]; omega)
          subst e3 e4
          have hb3w : b3 < wo.heap.size := Nat.lt_of_lt_of_le hb3 hbel.out.size
          have hb4w : b4 < wo.heap.size := Nat.lt_of_lt_of_le hb4 hbel.out.size
          have u1 := (hbl2.out.cell (p := ⟨b3, o3 + j, none⟩) hb3w).trans (hc3 j (.string s) (by simp [hs]))
          have t1 := (hbl2.out.cell (p := ⟨b4, o4 + j, none⟩) hb4w).trans (hc4 j (.string s) (by simp [hs]))
          clear hc3 hc4 hs
          go_wp2_with fail
          go_quiet (fail)
          go_wp2
          go_roundw
          case rel => exact ⟨j + 1, by omega, by go_num, Lib.hid ⟨hbl2.out.os, hbl2.out.tape, hbl2.out.output, hbl2.out.size, hbl2.out.block⟩⟩
          case measure => simp [intOf]; omega
        · obtain rfl : j = l := by omega
          have HBN := Lib.hid (hbel.out.trans (hbl2.out.mono hbel.out.size))
          go_wp2_with fail
          go_roundw
          case rel => exact ⟨k + 1, by omega, by go_num, HBN⟩
          case measure => simp [intOf]; omega
    · obtain rfl : k = n := by omega
      go_wp2_with fail
      go_ret
      exact ⟨rfl, hbel.out⟩
def MadeR (w : World) (es : List LE) (e : Ending) (w' : World) : Prop := ∃ v, e = .returned v ∧ (∃ f, FodV w' (New w w') v f ∧ f.getD [] = es) ∧ Below w.heap.size w w'
set_option maxRecDepth 100000 in
set_option maxHeartbeats 3200000 in
theorem copy18 (w : World) (v : Value) (es : List LE) (h : FodR w v es) (hn16 : es.length ≤ 16777000) : Calls Tryf.prog 18 #[v] w (MadeR w (es.map norm)) := by
  obtain ⟨f, hf, hfe⟩ := h
  obtain ⟨x, cp, rfl, hle, hfo, hnone⟩ := hf.open
  rw [hfe] at hfo hle
  simp only [hfe]
  cases x with
  | none =>
    obtain rfl := hnone.1 rfl
    obtain rfl : es = [] := hfe.symm
    have hc0 : Value.slice none ([] : List LE).length cp = .slice none 0 0 := by
      have h9 : (Value.slice none ((none : Option (List LE)).getD []).length cp) = .slice none 0 0 := hf
      simpa using h9
    rw [hc0]
    have hne : ∀ W, (binOp .eql 28 (.slice none 0 0) (.slice none 0 0)).run Tryf.prog W = .ok (.bool true) W := fun W => by kernel_rfl
    go_enter Tryf.func18, Tryf.ntmps18
    go_wp2
    go_ret
    exact ⟨_, rfl, ⟨none, rfl, rfl⟩, Below.refl _ _⟩
  | some x =>
    clear hf hfe hnone
    generalize hnn : es.length = n at *
    have hne : ∀ W, (binOp .eql 28 (.slice (some x) n cp) (.slice none 0 0)).run Tryf.prog W = .ok (.bool false) W := fun W => by kernel_rfl
    obtain ⟨i0, hi, hz0, hz1, hz2⟩ := info_parts infE
    have hmk := fun W => run_make_n (P := Tryf.prog) 28 91 i0 _ Tryf.underlying28 hi hz0 .i64 .i64 n n (Nat.le_refl _) (by rw [hz2]; omega) (by omega) W
    rw [hz1, cellsF_zero] at hmk
    have HL := Lib.hid hnn
    have HF := Lib.hid hfo
    clear hi hz0 hz1 hz2 hnn hfo
    go_enter Tryf.func18, Tryf.ntmps18
    go_wp2_with fail
    go_loopw [4] (fun i wr => ∃ k : Nat, k ≤ n ∧ i = .int .i64 k ∧ Hid (Mid w wr (es.map norm) n k) ∧ Hid (Below w.heap.size w wr)) (fun i _ => n - (intOf i).toNat)
    case atStart => exact ⟨0, Nat.zero_le _, rfl, Lib.hid (Mid.zero _ _ _), Lib.hid ((Below.refl _ _).alloc (Nat.le_refl _) _)⟩
    case round =>
      obtain ⟨k, hk, rfl, hmid, hbel⟩ := hrel
      obtain ⟨wo, hwo⟩ : ∃ wo, wo = wr := ⟨_, rfl⟩
      subst hwo
      by_cases hlt : k < n
      · obtain ⟨e, he⟩ : ∃ e, es[k]? = some e := ⟨es[k]'(by rw [HL.out]; exact hlt), by simp⟩
        have hag0 : Agree (fun b => b < w.heap.size) w wo := Agree.of_below hbel.out fun b h => h
        obtain ⟨b, off, com, hx, hb, hcm, x0, x1, x2, x3⟩ := (HF.out.keep hag0).at he
        obtain rfl : x = _ := Option.some.inj hx
        have HZ := Lib.hid he
        have hbw : b < wo.heap.size := Nat.lt_of_lt_of_le hb hbel.out.size
        have hwr := hbel.out.size
        clear he hx hne hmk hag0
        obtain ⟨kd, bl, ind, cm⟩ := e
        simp only at x0 x1 x2 x3 hcm
        obtain ⟨ca, cc, rfl, hl16, hrd, _⟩ := hcm.open
        have HRD := Lib.hid hrd
        have HQE := Lib.hid (show norm ⟨kd, bl, ind, cm⟩ = ⟨kd, bl, ind, some (cm.getD [])⟩ from rfl)
        clear hrd hcm
        generalize cm.getD [] = ss at *
        generalize hl : ss.length = l at *
        have HSL := Lib.hid hl
        clear hl
        obtain ⟨i9, hi, hz0, hz1, hz2⟩ := info_parts inf9
        have hmk := fun W => run_make_n (P := Tryf.prog) 87 9 i9 _ Tryf.underlying87 hi hz0 .i64 .i64 l l (Nat.le_refl _) (by rw [hz2]; omega) (by omega) W
        rw [hz1, Nat.mul_one] at hmk
        generalize hZ : madeCells (Value.string ⟨#[]⟩).cells l = Z at hmk
        obtain ⟨Z, rfl⟩ : ∃ L : List Value, Z = L.toArray := ⟨Z.toList, by simp⟩
        obtain ⟨L, hL⟩ : ∃ L, L = ss.map Value.string := ⟨_, rfl⟩
        have HLE := Lib.hid hL
        have HLN := Lib.hid (show L.length = l by rw [hL, List.length_map, HSL.out])
        have HZn := Lib.hid (show Z.length = L.length by have := congrArg Array.size hZ; simp [size_madeCells, Value.cells] at this; rw [HLN.out]; omega)
        clear hZ hi hz0 hz1 hz2 hL
        have HB0 := Lib.hid (Blk.new wo 91 #[.slice ca l cc, .int .i64 kd, .int .i64 bl, .int .i64 ind])
        have hsz1 : (wo.alloc (.cells #[.slice ca l cc, .int .i64 kd, .int .i64 bl, .int .i64 ind] 91)).heap.size = wo.heap.size + 1 := by simp
        have HF0 := Lib.hid ((Below.refl wo.heap.size wo).alloc (Nat.le_refl _) (.cells #[.slice ca l cc, .int .i64 kd, .int .i64 bl, .int .i64 ind] 91))
        go_wp2_with fail
        go_loopw [7] (fun i w2 => ∃ j : Nat, j ≤ l ∧ i = .int .i64 j ∧ Hid (Blk w2 (wo.heap.size + 1) 9 (fillA L Z j)) ∧ Hid (Below (wo.heap.size + 1) (wo.alloc (.cells #[.slice ca l cc, .int .i64 kd, .int .i64 bl, .int .i64 ind] 91)) w2)) (fun i _ => l - (intOf i).toNat)
        case atStart => exact ⟨0, Nat.zero_le _, rfl, Lib.hid (by rw [fill_zero]; have := Blk.new (wo.alloc (.cells #[.slice ca l cc, .int .i64 kd, .int .i64 bl, .int .i64 ind] 91)) 9 Z.toArray; rwa [hsz1] at this), Lib.hid ((Below.refl _ _).alloc (by rw [hsz1]; omega) _)⟩
        case round =>
          obtain ⟨j, hj, rfl, hblk, hbl2⟩ := hrel
          have HBX := Lib.hid ((hbl2.out.block wo.heap.size (by omega)).trans HB0.out)
          have hbx : Blk wr wo.heap.size 91 #[.slice ca l cc, .int .i64 kd, .int .i64 bl, .int .i64 ind] := HBX.out
          have c0 := hbx.cell 0
          have c1 := hbx.cell 1
          have c2 := hbx.cell 2
          have c3 := hbx.cell 3
          simp at c0 c1 c2 c3
          have hwl := hbx.lt
          have hgl := hblk.out.lt
          clear hbx
          by_cases hjt : j < l
          · obtain ⟨s, hs⟩ : ∃ s, ss[j]? = some s := ⟨ss[j]'(by rw [HSL.out]; exact hjt), by simp⟩
            obtain ⟨b3, o3, e3, hb3, hc3⟩ := HRD.out.pos (by simp [HSL.out]; omega)
            subst e3
            have hb3w : b3 < wo.heap.size := Nat.lt_of_lt_of_le hb3 hwr
            have hb3s : b3 < (wo.alloc (.cells #[.slice (some ⟨b3, o3, none⟩) l cc, .int .i64 kd, .int .i64 bl, .int .i64 ind] 91)).heap.size := by simp; omega
            have u9 := (hbl2.out.cell (p := ⟨b3, o3 + j, none⟩) (by show b3 < wo.heap.size + 1; omega)).trans ((HF0.out.cell (p := ⟨b3, o3 + j, none⟩) hb3w).trans (hc3 j (.string s) (by simp [hs])))
            have hb3r : b3 < wr.heap.size := by omega
            have HSS := Lib.hid hs
            clear hc3 hs
            obtain ⟨u, hu⟩ := fill_at hblk.out HZn.out (k := j) (by rw [HLN.out]; exact hjt)
            have hfr := hblk.out.free j
            have HS := Lib.hid (hblk.out.set j (.string s))
            have HU := Lib.hid (fill_set' L Z j (.string s) HZn.out (by rw [HLE.out]; simp [HSS.out]))
            have HB := Lib.hid (hbl2.out.setCell (p := ⟨wo.heap.size + 1, j, none⟩) (Nat.le_refl _) (.string s))
            go_wp2
            go_roundw
            case rel => exact ⟨j + 1, by omega, by go_num, Lib.hid (by rw [← HU.out]; exact HS.out), HB⟩
            case measure => simp [intOf]; omega
          · obtain rfl : j = l := by omega
            have HF := Lib.hid (show Blk wr (wo.heap.size + 1) 9 L.toArray by have := hblk.out; rwa [fill_all L Z j (by rw [HLN.out]; exact Nat.le_refl _) (by rw [HZn.out, HLN.out]; exact Nat.le_refl _)] at this)
            have HCM : Hid (ComIs wr (New wo wr) (.slice (some ⟨wo.heap.size + 1, 0, none⟩) j j) (some ss)) := Lib.hid ⟨⟨wo.heap.size + 1, 0, none⟩, j, by rw [HSL.out], by rw [HSL.out]; omega, by have := HF.out.rdS (S := New wo wr) ⟨by omega, HF.out.lt⟩; rw [HLE.out] at this; simpa using this⟩
            have HB2 := Lib.hid (HF0.out.trans (hbl2.out.mono (Nat.le_succ _)))
            have HAG : Hid (Agree (Old wo) wo wr) := Lib.hid (Agree.of_below HB2.out fun b h => h)
            have hsz2 := HB2.out.size
            obtain ⟨u0, u1, u2, u3, y0, y1, y2, y3, f0, f1, f2, f3⟩ := hmid.out.spot (w2 := wr) HAG.out hlt
            have hgl2 : w.heap.size < wr.heap.size := Nat.lt_of_lt_of_le (by obtain ⟨els, _, _, h3⟩ := hmid.out; exact h3.lt) hsz2
            clear x0 x1 x2 x3
            have HST := Lib.hid (hmid.out.step (w2 := wr) (e := ⟨kd, bl, ind, some ss⟩) HAG.out hsz2 HCM.out (by rw [List.getElem?_map, HZ.out]; exact congrArg some HQE.out) hlt)
            have HBE := Lib.hid ((hbel.out.trans (HB2.out.mono hbel.out.size)).grown (put4_grown wr w.heap.size k (.slice (some ⟨wo.heap.size + 1, 0, none⟩) j j) kd bl ind) (Nat.le_trans hbel.out.size hsz2) (by intro q hq; injection hq with hq; omega))
            go_wp2
            go_roundw
            case rel => exact ⟨k + 1, by omega, by go_num, HST, HBE⟩
            case measure => simp [intOf]; omega
      · have hkn : k = n := by omega
        subst hkn
        have HF := Lib.hid (hmid.out.full (by rw [List.length_map, HL.out]) (by omega))
        go_wp2_with fail
        go_ret
        exact ⟨_, rfl, ⟨some (es.map norm), HF.out, rfl⟩, hbel.out⟩

/-- As FodN, without the word on fullness. -/
def FodX (w : World) (X : Nat → Prop) (v : Value) (es : List LE) : Prop := ∃ f, FodV w (fun b => b < w.heap.size ∧ ¬ X b) v f ∧ f.getD [] = es
theorem FodX.fr {w w' : World} {X Y : Nat → Prop} {v : Value} {es : List LE} (h : FodX w X v es) (fr : Fr w w' Y) (hY : ∀ b, Y b → X b) : FodX w' X v es := by
  obtain ⟨f, h1, h2⟩ := h
  exact ⟨f, (h1.keep (fr.agree fun b hb => ⟨hb.1, fun hy => hb.2 (hY b hy)⟩)).sub fun b hb => ⟨Nat.lt_of_lt_of_le hb.1 fr.size, hb.2⟩, h2⟩
theorem FodX.below {w w' : World} {X : Nat → Prop} {v : Value} {es : List LE} (h : FodX w X v es) (hb : Below w.heap.size w w') : FodX w' X v es :=
  h.fr (Fr.of_below hb (fun _ => False)) fun b hb => hb.elim
theorem FodX.fodR {w : World} {X : Nat → Prop} {v : Value} {es : List LE} (h : FodX w X v es) : FodR w v es := by
  obtain ⟨f, h1, h2⟩ := h
  exact ⟨f, h1.sub fun b h => h.1, h2⟩
theorem made_X {w w' : World} {X : Nat → Prop} {v : Value} {es : List LE} (h : ∃ f, FodV w' (New w w') v f ∧ f.getD [] = es) (hX : ∀ b, X b → b < w.heap.size) : FodX w' X v es := by
  obtain ⟨f, h1, h2⟩ := h
  exact ⟨f, h1.sub fun b h => ⟨h.2, fun hx => by have := hX b hx; have := h.1; omega⟩, h2⟩
theorem hasL_clean (es : List LE) (h : isClean es = true) : hasL es = true := by
  unfold isClean at h
  split at h
  · next e he => exact List.any_eq_true.2 ⟨e, List.mem_of_getLast? he, h⟩
  · cases h
theorem hasL_ens (es : List LE) : hasL (ens es) = true := hasL_clean _ (isClean_ens es)
theorem ens_clean (es : List LE) (h : isClean es = true) : ens es = es := by
  unfold ens
  rw [if_pos h]
theorem ens_ens (es : List LE) : ens (ens es) = ens es := ens_clean _ (isClean_ens es)
theorem fix_ok {x : Bool} {es : List LE} (h : ∀ e ∈ es, OkL e) : ∀ e ∈ fix x es, OkL e := by
  unfold fix
  split
  · exact ens_ok h
  · exact h
theorem fix_len (x : Bool) (es : List LE) : (fix x es).length ≤ es.length + 1 := by
  unfold fix ens
  split
  · split <;> simp
  · simp
theorem fix_fix (x y : Bool) (es : List LE) (h : x = false → y = false) : fix y (fix x es) = fix x es := by
  unfold fix
  cases x with
  | true => cases y <;> simp [ens_ens]
  | false => rw [h rfl]; simp
end Go.Proofs.YtlaghkppjdphnaaFmt
