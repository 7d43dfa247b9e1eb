/- sameStrings, sameElem answer true on what reads alike; appendComments; ZZsplitFodder. -/
import Derived.Test.YtakhhnjnohnllaaFmtTof
namespace Go.Proofs.YtakhhnjnohnllaaFmt
open Go.RowKit
set_option linter.unusedVariables false

def Yes (w : World) (e : Ending) (w' : World) : Prop := e = .returned (.bool true) ∧ Below w.heap.size w w'

set_option maxRecDepth 100000 in
theorem str11 (w : World) (a b : Option Addr) (n ca cb : Nat) (ss : List ByteArray) (h1 : RdS w (Old w) a (ss.map Value.string)) (h2 : RdS w (Old w) b (ss.map Value.string)) (hn : ss.length = n) (h63 : n ≤ 9223372036854775807) : Calls Tryf.prog 11 #[.slice a n ca, .slice b n cb] w (Yes w) := by
  have HN := Lib.hid hn
  have HX := Lib.hid h1
  have HY := Lib.hid h2
  clear hn h1 h2
  unfold Yes
  go_enter Tryf.func11, Tryf.ntmps11
  go_wp2
  go_loopw [5] (fun i wr => ∃ k : Nat, k ≤ n ∧ i = .int .i64 k ∧ Hid (Below w.heap.size w wr)) (fun i _ => n - (intOf i).toNat)
  case atStart => exact ⟨0, Nat.zero_le _, rfl, Lib.hid (Below.refl _ _)⟩
  case round =>
    obtain ⟨k, hk, rfl, hbel⟩ := hrel
    by_cases hlt : k < n
    · obtain ⟨s, hs⟩ : ∃ s, ss[k]? = some s := ⟨ss[k]'(by rw [HN.out]; exact hlt), by simp⟩
      obtain ⟨b1, o1, e1, hb1, c1⟩ := HX.out.pos (by simp [HN.out]; omega)
      obtain ⟨b2, o2, e2, hb2, c2⟩ := HY.out.pos (by simp [HN.out]; omega)
      subst e1 e2
      have y1 : wr.cell? ⟨b1, o1 + k, none⟩ = some (.string s) := (hbel.out.cell (p := ⟨b1, o1 + k, none⟩) hb1).trans (c1 k _ (by simp [hs]))
      have y2 : wr.cell? ⟨b2, o2 + k, none⟩ = some (.string s) := (hbel.out.cell (p := ⟨b2, o2 + k, none⟩) hb2).trans (c2 k _ (by simp [hs]))
      clear c1 c2 hs
      go_wp2_with fail
      go_quiet (fail)
      go_wp2
      go_roundw
      case rel => exact ⟨k + 1, by omega, by go_num, Lib.hid ⟨hbel.out.os, hbel.out.tape, hbel.out.output, hbel.out.size, hbel.out.block⟩⟩
      case measure => simp [intOf]; omega
    · go_wp2
      go_ret
      exact ⟨rfl, hbel.out⟩
theorem coms_eq (w : World) (v1 v2 : Value) (c1 c2 : Option (List ByteArray)) (h1 : ComIs w (Old w) v1 c1) (h2 : ComIs w (Old w) v2 c2) (hc : c1.getD [] = c2.getD []) : Calls Tryf.prog 11 #[v1, v2] w (Yes w) := by
  obtain ⟨a, ca, rfl, hl, hr, _⟩ := h1.open
  obtain ⟨b, cb, rfl, _, hr2, _⟩ := h2.open
  rw [hc] at hr hl ⊢
  exact str11 w a b _ ca cb _ hr hr2 rfl (by omega)

set_option maxHeartbeats 1600000 in
theorem elem13 (w : World) (a1 a2 : Value) (kd bl ind : Int) (c c' : Option (List ByteArray)) (h1 : ComIs w (Old w) a1 c) (h2 : ComIs w (Old w) a2 c') (hcc : c.getD [] = c'.getD []) : Calls Tryf.prog 13 #[.agg #[a1, .int .i64 kd, .int .i64 bl, .int .i64 ind], .agg #[a2, .int .i64 kd, .int .i64 bl, .int .i64 ind]] w (Yes w) := by
  obtain ⟨x1, l1, c1, rfl⟩ := h1.is_slice
  obtain ⟨x2, l2, c2, rfl⟩ := h2.is_slice
  have K : ∀ o1 o2, Calls Tryf.prog 11 #[.slice x1 l1 c1, .slice x2 l2 c2] ((w.alloc o1).alloc o2) (Yes ((w.alloc o1).alloc o2)) := fun o1 o2 => by
    have hag : Agree (Old w) w ((w.alloc o1).alloc o2) := (Agree.alloc _ w o1 fun b h => h).trans (Agree.alloc _ _ o2 fun b (h : b < w.heap.size) => by simp; omega)
    have hsub : ∀ b, Old w b → Old ((w.alloc o1).alloc o2) b := fun b (h : b < w.heap.size) => by show b < _; simp; omega
    exact coms_eq _ _ _ c c' ((h1.keep hag).sub hsub) ((h2.keep hag).sub hsub) hcc
  have KK := Lib.hid K
  clear h1 h2 K
  unfold Yes
  go_enter Tryf.func13, Tryf.ntmps13
  go_wp2_with fail
  refine (KK.out _ _).mono ?_
  rintro e w1 ⟨rfl, hb⟩
  have HB := Lib.hid ((((Below.refl w.heap.size w).alloc (Nat.le_refl _) _).alloc (by simp) _).trans (hb.mono (by simp; omega)))
  clear hb KK
  go_wp2_with fail
  go_ret
  exact ⟨rfl, HB.out⟩

theorem zzsplit8 (w : World) (v : Value) (f : Option (List LE)) (hf : FodV w (fun b => b < w.heap.size) v f) (hm : (f.getD []).length ≤ 1048576) : Calls Tryf.prog 8 #[v] w (Halved w (f.getD [])) := by
  have K := Lib.hid (split_any w v f hf hm)
  have hv : ∃ x l c, v = .slice x l c := by obtain ⟨a, cp, rfl, _⟩ := hf.open; exact ⟨_, _, _, rfl⟩
  obtain ⟨x, l, c, rfl⟩ := hv
  clear hf
  unfold Halved
  go_enter Tryf.func8, Tryf.ntmps8
  go_wp2_with fail
  refine K.out.mono ?_
  rintro e w1 ⟨av, bv, rfl, h1, h2, hb⟩
  obtain ⟨f1, hf1, e1⟩ := h1
  obtain ⟨f2, hf2, e2⟩ := h2
  obtain ⟨a1, c1, rfl, _⟩ := hf1.open
  obtain ⟨a2, c2, rfl, _⟩ := hf2.open
  have H1 := Lib.hid (show ∃ f, FodV w1 (fun b => b < w1.heap.size) (.slice a1 (f1.getD []).length c1) f ∧ f.getD [] = _ from ⟨f1, hf1, e1⟩)
  have H2 := Lib.hid (show ∃ f, FodV w1 (fun b => b < w1.heap.size) (.slice a2 (f2.getD []).length c2) f ∧ f.getD [] = _ from ⟨f2, hf2, e2⟩)
  have HB := Lib.hid hb
  generalize (f1.getD []).length = l1 at *
  generalize (f2.getD []).length = l2 at *
  clear hf1 hf2 e1 e2 hb K
  go_wp2_with fail
  exact bodyPost_ret (v := .tuple #[.slice a1 l1 c1, .slice a2 l2 c2]) (by simp [results, Tryf.results8, go_sem]) rfl ⟨_, _, rfl, H1.out, H2.out, HB.out⟩

def coms (es : List LE) : List ByteArray := es.flatMap fun e => e.com.getD []
theorem coms_succ (es : List LE) (k : Nat) (e : LE) (h : es[k]? = some e) : coms (es.take (k + 1)) = coms (es.take k) ++ e.com.getD [] := by
  unfold coms
  rw [List.take_add_one, h]
  simp [List.flatMap_append]

def Comd (w : World) (B : Nat) (ss : List ByteArray) (m : Nat) (e : Ending) (w' : World) : Prop := ∃ v', e = .returned v' ∧ w'.ownsRow B 9 1 v' ss.length (ss.map Value.string) ∧ Below B w w' ∧ ss.length ≤ m

set_option maxRecDepth 100000 in
set_option maxHeartbeats 1600000 in
theorem apc10 (w : World) (B : Nat) (hB : B ≤ w.heap.size) (v fv : Value) (ss : List ByteArray) (f : Option (List LE)) (ho : w.ownsRow B 9 1 v ss.length (ss.map Value.string)) (hf : FodV w (fun b => b < B) fv f) (hs : ss.length + (f.getD []).length * 1048576 ≤ 4398046511104) :
    Calls Tryf.prog 10 #[v, fv] w (Comd w B (ss ++ coms (f.getD [])) (ss.length + (f.getD []).length * 1048576)) := by
  obtain ⟨x, cx, rfl, hle, hx, _⟩ := hf.open
  obtain ⟨i9, hi, hz0, hz1, hz2⟩ := info_parts inf9
  have hva : ∃ a n cp, v = .slice a n cp := by
    rcases ho.2 with ⟨rfl, _⟩ | ⟨q, cap, cur, rfl, _⟩
    · exact ⟨_, _, _, rfl⟩
    · exact ⟨_, _, _, rfl⟩
  obtain ⟨va, vn, vc, rfl⟩ := hva
  have HI := Lib.hid hi
  have HZ0 := Lib.hid hz0
  have HZ1 := Lib.hid hz1
  have HZ2 := Lib.hid hz2
  have HO := Lib.hid ho
  clear hf hi hz0 hz1 hz2 ho
  generalize f.getD [] = es at *
  generalize hn : es.length = n at *
  have HN := Lib.hid hn
  have HX := Lib.hid hx
  clear hn hx
  unfold Comd
  go_enter Tryf.func10, Tryf.ntmps10
  go_wp2_with fail
  go_loopw [0, 5] (fun d i wr => ∃ k : Nat, k ≤ n ∧ i = .int .i64 k ∧ (∃ a l c, d = .slice a l c) ∧ Hid (wr.ownsRow B 9 1 d (ss ++ coms (es.take k)).length ((ss ++ coms (es.take k)).map Value.string)) ∧ (ss ++ coms (es.take k)).length ≤ ss.length + k * 1048576 ∧ Hid (Below B w wr)) (fun _ i _ => n - (intOf i).toNat)
  case atStart => exact ⟨0, Nat.zero_le _, rfl, ⟨_, _, _, rfl⟩, Lib.hid (by simpa [coms] using HO.out), by simp [coms], Lib.hid (Below.refl _ _)⟩
  case round =>
    clear HO
    obtain ⟨k, hk, rfl, ⟨da, dl, dc, rfl⟩, hown, hlen, hbel⟩ := hrel
    by_cases hlt : k < n
    · obtain ⟨e, he⟩ : ∃ e, es[k]? = some e := ⟨es[k]'(by rw [HN.out]; exact hlt), by simp⟩
      obtain ⟨b, off, com, hxx, hb, hcm, x0, x1, x2, x3⟩ := HX.out.at he
      subst hxx
      obtain ⟨ca, cc, rfl, hcl, hrd, _⟩ := hcm.open
      have HCS := Lib.hid (coms_succ es k e he)
      have HRD := Lib.hid hrd
      clear he hcm x1 x2 x3 hrd
      obtain ⟨kd, bl, ind, cm⟩ := e
      simp only at x0 HCS HRD hcl
      have HX0 := Lib.hid x0
      have HCS2 : Hid (ss ++ coms (es.take (k + 1)) = (ss ++ coms (es.take k)) ++ cm.getD []) := Lib.hid (by rw [HCS.out, List.append_assoc])
      clear x0 HCS
      generalize cm.getD [] = cs at *
      generalize hm : cs.length = m at *
      have HM := Lib.hid hm
      generalize ss ++ coms (es.take k) = L at *
      clear hm
      go_wp2_with fail
      go_loopw [0, 6] (fun d i w2 => ∃ j : Nat, j ≤ m ∧ i = .int .i64 j ∧ (∃ a l c, d = .slice a l c) ∧ Hid (w2.ownsRow B 9 1 d (L ++ cs.take j).length ((L ++ cs.take j).map Value.string)) ∧ Hid (Below B w w2)) (fun _ i _ => m - (intOf i).toNat)
      case atStart => exact ⟨0, Nat.zero_le _, rfl, ⟨_, _, _, rfl⟩, Lib.hid (by simpa using hown.out), hbel⟩
      case round =>
        clear hown hbel
        obtain ⟨j, hj, rfl, ⟨ea, el, ec, rfl⟩, hown, hbel⟩ := hrel
        have hbw : b < w.heap.size := by have : b < B := hb; omega
        have hsz := hbel.out.size
        have hbw2 : b < wr.heap.size := by omega
        have x0 : wr.cell? ⟨b, off + k * 4, none⟩ = some (.slice ca m cc) := (hbel.out.cell (p := ⟨b, off + k * 4, none⟩) hb).trans HX0.out
        by_cases hjt : j < m
        · obtain ⟨s, hs⟩ : ∃ s, cs[j]? = some s := ⟨cs[j]'(by rw [HM.out]; exact hjt), by simp⟩
          obtain ⟨b2, off2, e2, hb2, hc2⟩ := HRD.out.pos (by simp [HM.out]; omega)
          subst e2
          have y0 : wr.cell? ⟨b2, off2 + j, none⟩ = some (.string s) := (hbel.out.cell (p := ⟨b2, off2 + j, none⟩) hb2).trans (hc2 j _ (by simp [hs]))
          have hb2w : b2 < wr.heap.size := by have : b2 < B := hb2; omega
          have hll : (L ++ cs.take j).length ≤ ss.length + k * 1048576 + j := by simp; omega
          have hll2 : (L ++ cs.take j).length + 1 ≤ 4398046511104 := by omega
          have HT : Hid (L ++ cs.take (j + 1) = (L ++ cs.take j) ++ [s]) := Lib.hid (by rw [List.take_add_one, hs]; simp)
          clear hc2 hs hll
          generalize L ++ cs.take j = M at *
          go_wp2_with (first | (with_reducible show wpList _ _ _ (⟨some 33, _, _, _, _, _⟩ :: _) _ _; refine of_hid ?_) | fail)
          refine Lib.hid ?_
          refine wpList_append_lies _ (o := ⟨some 33, _, _, _, _, _⟩) rfl (.tmp 23) (.tmp 32) 31 rfl B 9 i9 _ 1 16 Tryf.underlying31 HI.out HZ0.out HZ1.out HZ2.out (by simp [Value.cells]) (by omega) (.slice ea el ec) M.length (M.map Value.string) rfl (hown.out.alloc _) _ 1 1 [.string s] rfl rfl (new_cellsN _ _ _ _ (by simp)) (by intro u hu; simp only [List.mem_cons, List.not_mem_nil, or_false] at hu; subst hu; rfl) (by omega) (by unfold maxLen; omega) (by omega) (by simp; omega) _ rfl ?_
          intro g4 cap4 w4 hown4 hgrow4 hw4 hlt4
          have HOW := Lib.hid hown4
          have HBE := Lib.hid ((hbel.out.alloc (by omega) (.cells #[.string s] 9)).grown hgrow4 (by simp; omega) (by
            intro q hq
            rcases hown.out.2 with ⟨hv, _⟩ | ⟨g, cap, cur, hv, hbg, _⟩
            · rw [hv] at hq; cases hq
            · rw [hv] at hq
              injection hq with hq
              subst hq
              exact hbg))
          clear hown4 hgrow4 hw4 x0 y0
          go_wp2
          go_roundw
          case rel => exact ⟨j + 1, by omega, by go_num, ⟨_, _, _, rfl⟩, Lib.hid (by rw [HT.out]; have := HOW.out; simpa using this), HBE⟩
          case measure => simp [intOf]; omega
        · obtain rfl : j = m := by omega
          have HF : cs.take j = cs := List.take_of_length_le (by rw [HM.out]; exact Nat.le_refl _)
          rw [HF] at hown
          go_wp2_with fail
          go_roundw
          case rel => exact ⟨k + 1, by omega, by go_num, ⟨_, _, _, rfl⟩, by rw [HCS2.out]; exact hown, by rw [HCS2.out, List.length_append, HM.out]; omega, hbel⟩
          case measure => simp [intOf]; omega
    · obtain rfl : k = n := by omega
      have HF : es.take k = es := List.take_of_length_le (by rw [HN.out]; exact Nat.le_refl _)
      rw [HF] at hown hlen
      go_wp2_with fail
      go_ret
      exact ⟨_, rfl, hown.out, hbel.out, hlen⟩
end Go.Proofs.YtakhhnjnohnllaaFmt
