/- toFodder: a fodder built anew, its kinds modulo 3. -/
import Derived.Test.YtakhhnjnohnllaaFmtSiz
import Derived.Laws.CopyOwn
namespace Go.Proofs.YtakhhnjnohnllaaFmt
open Go.RowKit
set_option linter.unusedVariables false

theorem inf9 : (Tryf.prog.info? 9).map (fun i => (i.zero, i.size, i.bytes)) = some (some (.string ⟨#[]⟩), 1, 16) := by kernel_rfl
theorem siz9 : (Tryf.prog.info? 9).map (·.size) = some 1 := by kernel_rfl
/-- The row under way: its first k elements are laid, their comments behind it. -/
def Mid (w wr : World) (es : List LE) (n k : Nat) : Prop :=
  ∃ els : List El, ElsAre wr (fun b => w.heap.size < b ∧ b < wr.heap.size) els (es.take k) ∧ els.length = k ∧ Blk wr w.heap.size 36 (cellsF (padF els n)).toArray
theorem Mid.step {w wr w2 : World} {es : List LE} {n k : Nat} {e : LE} {v : Value} (h : Mid w wr es n k) (hb : Agree (Old wr) wr w2) (hsz : wr.heap.size ≤ w2.heap.size) (hc : ComIs w2 (New wr w2) v e.com) (he : es[k]? = some e) (hk : k < n) : Mid w (put4 w2 w.heap.size k v e.kind e.blanks e.indent) es n (k + 1) := by
  obtain ⟨els, h1, h2, h3⟩ := h
  have hlt := h3.lt
  have hg := put4_grown w2 w.heap.size k v e.kind e.blanks e.indent
  have hsz2 := hg.size
  refine ⟨els ++ [⟨v, e.kind, e.blanks, e.indent⟩], ?_, by simp [h2], put4_blk (show Blk w2 w.heap.size 36 _ from (hb _ hlt).trans h3) h2 hk _ _ _ _⟩
  rw [List.take_add_one, he]
  refine ElsAre.snoc (e := e) ?_ ⟨rfl, rfl, rfl, ?_⟩
  · refine ((h1.keep (hb.sub fun b hb => hb.2)).keep (Agree.of_grown hg fun b hb => ⟨by omega, by simp; omega⟩)).sub fun b hb => ⟨hb.1, by omega⟩
  · refine (hc.keep (Agree.of_grown hg fun b hb => ⟨hb.2, ?_⟩)).sub fun b hb => ⟨?_, ?_⟩
    · have := hb.1; simp; omega
    · have := hb.1; omega
    · have := hb.2; omega
theorem Mid.full {w wr : World} {es : List LE} {n : Nat} (h : Mid w wr es n n) (hn : es.length = n) (hle : n ≤ 16777216) : FodV wr (New w wr) (.slice (some ⟨w.heap.size, 0, none⟩) n n) (some es) := by
  obtain ⟨els, h1, h2, h3⟩ := h
  rw [List.take_of_length_le (by omega)] at h1
  have hp : padF els n = els := by have := padF_full els; rwa [h2] at this
  rw [hp] at h3
  refine ⟨_, _, by rw [hn], by omega, els, h1.sub fun b hb => ⟨by omega, hb.2⟩, ?_⟩
  have := h3.rdS (S := New w wr) ⟨Nat.le_refl _, h3.lt⟩
  simpa using this
theorem Mid.zero (w : World) (es : List LE) (n : Nat) : Mid w (w.alloc (.cells (cellsF (padF [] n)).toArray 36)) es n 0 := ⟨[], ElsAre.nil _ _, rfl, Blk.new _ _ _⟩
/-- What the store wants of the row. -/
theorem Mid.spot {w wr w2 : World} {es : List LE} {n k : Nat} (h : Mid w wr es n k) (hb : Agree (Old wr) wr w2) (hk : k < n) :
    ∃ u0 u1 u2 u3, w2.cell? ⟨w.heap.size, k * 4, none⟩ = some u0 ∧ w2.cell? ⟨w.heap.size, k * 4 + 1, none⟩ = some u1 ∧ w2.cell? ⟨w.heap.size, k * 4 + 2, none⟩ = some u2 ∧ w2.cell? ⟨w.heap.size, k * 4 + 3, none⟩ = some u3 ∧
      w2.frozen? ⟨w.heap.size, k * 4, none⟩ = false ∧ w2.frozen? ⟨w.heap.size, k * 4 + 1, none⟩ = false ∧ w2.frozen? ⟨w.heap.size, k * 4 + 2, none⟩ = false ∧ w2.frozen? ⟨w.heap.size, k * 4 + 3, none⟩ = false := by
  obtain ⟨els, h1, h2, h3⟩ := h
  have h4 : Blk w2 w.heap.size 36 _ := (hb _ h3.lt).trans h3
  obtain ⟨y0, y1, y2, y3⟩ := blk_at h4 (padF_at _ n k h2 hk)
  exact ⟨_, _, _, _, y0, y1, y2, y3, h4.free _, h4.free _, h4.free _, h4.free _⟩

def Made (w : World) (f : Option (List LE)) (e : Ending) (w' : World) : Prop := ∃ v, e = .returned v ∧ FodV w' (New w w') v f ∧ Below w.heap.size w w'

theorem Mid.drew {w wr : World} {es : List LE} {n k : Nat} (h : Mid w wr es n k) : Mid w wr.drew es n k := h
def ZE.le7 (z : ZE) : LE := ⟨kdOf z.kind, z.blanks, z.indent, z.ca.map fun _ => z.ss⟩
def inF (a : Option Addr) (zs : List ZE) : Option (List LE) := a.map fun _ => zs.map ZE.le7
theorem rdS_hpos {w : World} {S : Nat → Prop} {a : Option Addr} {xs : List Value} (h : RdS w S a xs) (hl : 0 < xs.length) : ∃ ad, a = some ad ∧ ∀ j v, xs[j]? = some v → w.cell? (ad.add j) = some v := by
  obtain ⟨b, off, rfl, hb, hc⟩ := h.pos hl
  exact ⟨_, rfl, fun j v hv => by rw [Go.WideShapes.add_plain]; exact hc j v hv⟩

set_option maxRecDepth 100000 in
set_option maxHeartbeats 1600000 in
theorem tofod7 (w : World) (a : Option Addr) (n cp : Nat) (zs : List ZE) (h : IsZs w a n cp zs) (hn : n ≤ 1048576) (hc : ∀ z ∈ zs, z.cl ≤ 1048576) : Calls Tryf.prog 7 #[.slice a n cp] w (Made w (inF a zs)) := by
  obtain ⟨hl, hlc, hcm, hnil, hok, hr⟩ := h
  cases a with
  | none =>
    obtain rfl := hnil rfl
    obtain rfl : n = 0 := Nat.le_zero.1 hlc
    have hne : ∀ W, (binOp .eql 22 (.slice none 0 0) (.slice none 0 0)).run Tryf.prog W = .ok (.bool true) W := fun W => by kernel_rfl
    go_enter Tryf.func7, Tryf.ntmps7
    go_wp2
    go_ret
    exact ⟨_, rfl, rfl, Below.refl _ _⟩
  | some x =>
    have hne : ∀ W, (binOp .eql 22 (.slice (some x) n cp) (.slice none 0 0)).run Tryf.prog W = .ok (.bool false) W := fun W => by kernel_rfl
    obtain ⟨i0, hi, hz0, hz1, hz2⟩ := info_parts infE
    have hmk := fun W => run_make_n (P := Tryf.prog) 26 36 i0 _ Tryf.underlying26 hi hz0 .i64 .i64 n n (Nat.le_refl _) (by rw [hz2]; omega) (by omega) W
    rw [hz1, cellsF_zero] at hmk
    have HL := Lib.hid hl
    have HR := Lib.hid hr
    have HK := Lib.hid hok
    have HC := Lib.hid hc
    clear hi hz0 hz1 hz2 hl hr hok hc hnil hcm hlc
    go_enter Tryf.func7, Tryf.ntmps7
    go_wp2_with fail
    go_loopw [4] (fun i wr => ∃ k : Nat, k ≤ n ∧ i = .int .i64 k ∧ Hid (Mid w wr (zs.map ZE.le7) n k) ∧ Hid (Below w.heap.size w wr)) (fun i _ => n - (intOf i).toNat)
    case atStart => exact ⟨0, Nat.zero_le _, rfl, Lib.hid (Mid.zero _ _ _), Lib.hid ((Below.refl _ _).alloc (Nat.le_refl _) _)⟩
    case round =>
      obtain ⟨k, hk, rfl, hmid, hbel⟩ := hrel
      by_cases hlt : k < n
      · obtain ⟨z, hz⟩ : ∃ z, zs[k]? = some z := ⟨zs[k]'(by rw [HL.out]; exact hlt), by simp⟩
        obtain ⟨b, off, hx, hb, x0, x1, x2, x3⟩ := IsZs.at (n := n) (c := cp) HR.out hz
        obtain rfl : x = _ := Option.some.inj hx
        have HZ := Lib.hid hz
        have hbw : b < wr.heap.size := Nat.lt_of_lt_of_le hb hbel.out.size
        have hbg : w.heap.size ≠ b := by omega
        replace x0 := (hbel.out.cell (p := ⟨b, off + k * 4, none⟩) hb).trans x0
        replace x1 := (hbel.out.cell (p := ⟨b, off + k * 4 + 1, none⟩) hb).trans x1
        replace x2 := (hbel.out.cell (p := ⟨b, off + k * 4 + 2, none⟩) hb).trans x2
        replace x3 := (hbel.out.cell (p := ⟨b, off + k * 4 + 3, none⟩) hb).trans x3
        have hcom : ComIs wr (Old wr) (.slice z.ca z.cl z.cc) (z.ca.map fun _ => z.ss) := ((HK.out z (List.mem_of_getElem? hz)).2.2.2.below hbel.out).com (HC.out z (List.mem_of_getElem? hz))
        clear hz hx hne hmk
        obtain ⟨kd, bl, ind, ca, cl, cc, ss⟩ := z
        simp only at x0 x1 x2 x3 hcom
        cases ca with
        | none =>
          obtain ⟨hcl, hcc⟩ : cl = 0 ∧ cc = 0 := by injection (show Value.slice none cl cc = .slice none 0 0 from hcom) with _ h1 h2; exact ⟨h1, h2⟩
          subst hcl hcc
          have hne : ∀ W, (binOp .neq 31 (.slice none 0 0) (.slice none 0 0)).run Tryf.prog W = .ok (.bool false) W := fun W => by kernel_rfl
          obtain ⟨W2, hW2⟩ : ∃ W2, W2 = wr := ⟨_, rfl⟩
          subst hW2
          obtain ⟨ca', cl', cc', rfl, rfl, rfl⟩ : ∃ ca' cl' cc', ca' = (none : Option Addr) ∧ cl' = 0 ∧ cc' = 0 := ⟨_, _, _, rfl, rfl, rfl⟩
          have HCM : Hid (ComIs W2 (New W2 W2) (.slice none 0 0) none) := Lib.hid rfl
          have HB2 := Lib.hid (Below.refl W2.heap.size W2)
          have HAG := Lib.hid (Agree.refl (Old W2) W2)
          have hsz2 : W2.heap.size ≤ W2.heap.size := Nat.le_refl _
          clear hcom
          obtain ⟨u0, u1, u2, u3, y0, y1, y2, y3, f0, f1, f2, f3⟩ := hmid.out.spot (w2 := W2) HAG.out hlt
          have hgl : w.heap.size < W2.heap.size := Nat.lt_of_lt_of_le (by obtain ⟨els, _, _, h3⟩ := hmid.out; exact h3.lt) hsz2
          go_wp2_with fail
          refine wp_region_tail 21 (by kernel_rfl) (by kernel_rfl) ?_
          simp only [List.take_succ_cons, List.take_zero, List.drop_succ_cons, List.drop_zero]
          repeat still_step
          still_call ((kind14 _ _).mono fun e w1 h => ⟨h.1, h.2.symm⟩)
          repeat still_step
          refine wpStill_nil ?_
          have HST := Lib.hid (hmid.out.step (w2 := W2) (e := ⟨kdOf kd, bl, ind, none⟩) HAG.out hsz2 HCM.out (by rw [List.getElem?_map, HZ.out]; rfl) hlt)
          have HBE := Lib.hid ((hbel.out.trans (HB2.out.mono hbel.out.size)).grown (put4_grown W2 w.heap.size k (.slice none 0 0) (kdOf kd) bl ind) (Nat.le_trans hbel.out.size hsz2) (by intro q hq; injection hq with hq; omega))
          go_wp2
          go_roundw
          case rel => exact ⟨k + 1, by omega, by go_num, Lib.hid (HST.out.drew), Lib.hid HBE.out.drew⟩
          case measure => simp [intOf]; omega
        | some y =>
          obtain ⟨_, _, he, hle, hrd⟩ := hcom
          injection he with e1 e2 e3
          injection e1 with e1
          subst e1
          subst e3
          have hne : ∀ W, (binOp .neq 31 (.slice (some y) cl cc) (.slice none 0 0)).run Tryf.prog W = .ok (.bool true) W := fun W => by kernel_rfl
          obtain ⟨i9, hi, hz0, hz1, hz2⟩ := info_parts inf9
          have hmk := fun W => run_make_n (P := Tryf.prog) 31 9 i9 _ Tryf.underlying31 hi hz0 .i64 .i64 cl cl (Nat.le_refl _) (by rw [hz2]; omega) (by omega) W
          rw [hz1, Nat.mul_one] at hmk
          generalize hZ : madeCells (Value.string ⟨#[]⟩).cells cl = Z at hmk
          obtain ⟨Z, rfl⟩ : ∃ L : List Value, Z = L.toArray := ⟨Z.toList, by simp⟩
          have HZn := Lib.hid (show Z.length = cl by have := congrArg Array.size hZ; simp [size_madeCells, Value.cells] at this; omega)
          have HRD := Lib.hid hrd
          have HEQ := Lib.hid e2
          clear hi hz0 hz1 hz2 hZ hrd e2
          go_wp2_with (first | (with_reducible show wpList _ _ _ (⟨some 36, _, _, _, _, _⟩ :: _) _ _; refine of_hid ?_) | fail)
          refine Lib.hid ?_
          refine wpList_copy_splice (o := ⟨some 36, _, _, _, _, _⟩) rfl (.tmp 30) (.tmp 35) 31 31 rfl 9 Tryf.underlying31 siz9 _ _ _ _ _ _ rfl rfl wr.heap.size 0 Z 9 (Blk.new wr _ _) (ss.map Value.string) (by rw [List.length_map, ← HEQ.out]; exact (Nat.min_self _).symm) (fun h => ⟨rfl, rdS_hpos (HRD.out.keep (Agree.alloc _ _ _ fun b h => h)) h⟩) (by rw [List.length_map, ← HEQ.out, HZn.out]; omega) (by intro v hv; obtain ⟨z, _, rfl⟩ := List.mem_map.1 hv; rfl) wr.heap.size wr ((Below.refl _ _).alloc (Nat.le_refl _) _) (Nat.le_refl _) ?_
          intro W2 HG2 hb2
          have HBK : Hid (Blk W2 wr.heap.size 9 (ss.map Value.string).toArray) := Lib.hid (by
            have := HG2.out
            have e : splice Z 0 (ss.map Value.string) = ss.map Value.string := by
              have e2 : Z.drop (ss.map Value.string).length = [] := List.drop_eq_nil_of_le (by rw [List.length_map, HZn.out, HEQ.out]; exact Nat.le_refl _)
              simpa [splice] using by simpa using e2
            rw [e] at this
            exact this)
          have HCM : Hid (ComIs W2 (New wr W2) (.slice (some ⟨wr.heap.size, 0, none⟩) cl cl) (some ss)) := Lib.hid ⟨_, _, by rw [HEQ.out], hle, by have := HBK.out.rdS (S := New wr W2) ⟨Nat.le_refl _, HBK.out.lt⟩; simpa using this⟩
          have HB2 := Lib.hid hb2
          have HAG : Hid (Agree (Old wr) wr W2) := Lib.hid (Agree.of_below hb2 fun b h => h)
          have hsz2 := hb2.size
          replace x0 := (hb2.cell (p := ⟨b, off + k * 4, none⟩) hbw).trans x0
          replace x1 := (hb2.cell (p := ⟨b, off + k * 4 + 1, none⟩) hbw).trans x1
          replace x2 := (hb2.cell (p := ⟨b, off + k * 4 + 2, none⟩) hbw).trans x2
          replace x3 := (hb2.cell (p := ⟨b, off + k * 4 + 3, none⟩) hbw).trans x3
          have hbw2 : b < W2.heap.size := Nat.lt_of_lt_of_le hbw hsz2
          clear hb2 HG2 hmk hne
          obtain ⟨u0, u1, u2, u3, y0, y1, y2, y3, f0, f1, f2, f3⟩ := hmid.out.spot (w2 := W2) HAG.out hlt
          have hgl : w.heap.size < W2.heap.size := Nat.lt_of_lt_of_le (by obtain ⟨els, _, _, h3⟩ := hmid.out; exact h3.lt) hsz2
          go_wp2_with fail
          refine wp_region_tail 21 (by kernel_rfl) (by kernel_rfl) ?_
          simp only [List.take_succ_cons, List.take_zero, List.drop_succ_cons, List.drop_zero]
          repeat still_step
          still_call ((kind14 _ _).mono fun e w1 h => ⟨h.1, h.2.symm⟩)
          repeat still_step
          refine wpStill_nil ?_
          have HST := Lib.hid (hmid.out.step (w2 := W2) (e := ⟨kdOf kd, bl, ind, some ss⟩) HAG.out hsz2 HCM.out (by rw [List.getElem?_map, HZ.out]; rfl) hlt)
          have HBE := Lib.hid ((hbel.out.trans (HB2.out.mono hbel.out.size)).grown (put4_grown W2 w.heap.size k (.slice (some ⟨wr.heap.size, 0, none⟩) cl cl) (kdOf kd) bl ind) (Nat.le_trans hbel.out.size hsz2) (by intro q hq; injection hq with hq; omega))
          go_wp2
          go_roundw
          case rel => exact ⟨k + 1, by omega, by go_num, Lib.hid (HST.out.drew), Lib.hid HBE.out.drew⟩
          case measure => simp [intOf]; omega
      · have hkn : k = n := by omega
        subst hkn
        have HF := Lib.hid (hmid.out.full (by rw [List.length_map, HL.out]) (by omega))
        go_wp2_with fail
        go_ret
        exact ⟨_, rfl, HF.out, hbel.out⟩
end Go.Proofs.YtakhhnjnohnllaaFmt
