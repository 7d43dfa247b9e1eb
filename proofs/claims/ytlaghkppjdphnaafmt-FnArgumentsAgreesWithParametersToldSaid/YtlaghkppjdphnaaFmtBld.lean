/- zzBuild: a fodder built anew, its capacity its length. -/
import Derived.Test.YtlaghkppjdphnaaFmtChk
import Derived.Test.YtlaghkppjdphnaaFmtOwn
import Derived.Test.YtlaghkppjdphnaaFmtFill
namespace Go.Proofs.YtlaghkppjdphnaaFmt
open Go.RowKit
set_option linter.unusedVariables false

theorem inf9 : (Tryf.prog.info? 9).map (fun i => (i.zero, i.size, i.bytes)) = some (some (.string ⟨#[]⟩), 1, 16) := by kernel_rfl
/-- The row under way: its first k elements are laid, their comments behind it. -/
def Mid (w wr : World) (es : List LE) (n k : Nat) : Prop :=
  ∃ els : List El, ElsAre wr (fun b => w.heap.size < b ∧ b < wr.heap.size) els (es.take k) ∧ els.length = k ∧ Blk wr w.heap.size 91 (cellsF (padF els n)).toArray
theorem Mid.step {w wr w2 : World} {es : List LE} {n k : Nat} {e : LE} {v : Value} (h : Mid w wr es n k) (hb : Agree (Old wr) wr w2) (hsz : wr.heap.size ≤ w2.heap.size) (hc : ComIs w2 (New wr w2) v e.com) (he : es[k]? = some e) (hk : k < n) : Mid w (put4 w2 w.heap.size k v e.kind e.blanks e.indent) es n (k + 1) := by
  obtain ⟨els, h1, h2, h3⟩ := h
  have hlt := h3.lt
  have hg := put4_grown w2 w.heap.size k v e.kind e.blanks e.indent
  have hsz2 := hg.size
  refine ⟨els ++ [⟨v, e.kind, e.blanks, e.indent⟩], ?_, by simp [h2], put4_blk (show Blk w2 w.heap.size 91 _ from (hb _ hlt).trans h3) h2 hk _ _ _ _⟩
  rw [List.take_add_one, he]
  refine ElsAre.snoc (e := e) ?_ ⟨rfl, rfl, rfl, ?_⟩
  · refine ((h1.keep (hb.sub fun b hb => hb.2)).keep (Agree.of_grown hg fun b hb => ⟨by omega, by simp; omega⟩)).sub fun b hb => ⟨hb.1, by omega⟩
  · refine (hc.keep (Agree.of_grown hg fun b hb => ⟨hb.2, ?_⟩)).sub fun b hb => ⟨?_, ?_⟩
    · have := hb.1; simp; omega
    · have := hb.1; omega
    · have := hb.2; omega
theorem Mid.full {w wr : World} {es : List LE} {n : Nat} (h : Mid w wr es n n) (hn : es.length = n) (hle : n ≤ 16777216) : FodV wr (New w wr) (.slice (some ⟨w.heap.size, 0, none⟩) n n) (some es) := by
  obtain ⟨els, h1, h2, h3⟩ := h
  rw [List.take_of_length_le (by omega)] at h1
  have hp : padF els n = els := by have := padF_full els; rwa [h2] at this
  rw [hp] at h3
  refine ⟨_, _, by rw [hn], by omega, els, h1.sub fun b hb => ⟨by omega, hb.2⟩, ?_⟩
  have := h3.rdS (S := New w wr) ⟨Nat.le_refl _, h3.lt⟩
  simpa using this
theorem Mid.zero (w : World) (es : List LE) (n : Nat) : Mid w (w.alloc (.cells (cellsF (padF [] n)).toArray 91)) es n 0 := ⟨[], ElsAre.nil _ _, rfl, Blk.new _ _ _⟩
/-- What the store wants of the row. -/
theorem Mid.spot {w wr w2 : World} {es : List LE} {n k : Nat} (h : Mid w wr es n k) (hb : Agree (Old wr) wr w2) (hk : k < n) :
    ∃ u0 u1 u2 u3, w2.cell? ⟨w.heap.size, k * 4, none⟩ = some u0 ∧ w2.cell? ⟨w.heap.size, k * 4 + 1, none⟩ = some u1 ∧ w2.cell? ⟨w.heap.size, k * 4 + 2, none⟩ = some u2 ∧ w2.cell? ⟨w.heap.size, k * 4 + 3, none⟩ = some u3 ∧
      w2.frozen? ⟨w.heap.size, k * 4, none⟩ = false ∧ w2.frozen? ⟨w.heap.size, k * 4 + 1, none⟩ = false ∧ w2.frozen? ⟨w.heap.size, k * 4 + 2, none⟩ = false ∧ w2.frozen? ⟨w.heap.size, k * 4 + 3, none⟩ = false := by
  obtain ⟨els, h1, h2, h3⟩ := h
  have h4 : Blk w2 w.heap.size 91 _ := (hb _ h3.lt).trans h3
  obtain ⟨y0, y1, y2, y3⟩ := blk_at h4 (padF_at _ n k h2 hk)
  exact ⟨_, _, _, _, y0, y1, y2, y3, h4.free _, h4.free _, h4.free _, h4.free _⟩

theorem Mid.drew {w wr : World} {es : List LE} {n k : Nat} (h : Mid w wr es n k) : Mid w wr.drew es n k := h
/-- A fodder's slice whose capacity is its length; none: nil. -/
def FodC (w : World) (S : Nat → Prop) (v : Value) : Option (List LE) → Prop
  | none => v = .slice none 0 0
  | some es => ∃ x, v = .slice (some x) es.length es.length ∧ es.length ≤ 16777000 ∧ FodIs w S (some x) es
theorem FodC.fodV {w : World} {S : Nat → Prop} {v : Value} {f : Option (List LE)} (h : FodC w S v f) : FodV w S v f := by
  cases f with
  | none => exact h
  | some es => obtain ⟨x, h1, h2, h3⟩ := h; exact ⟨x, _, h1, by omega, h3⟩
theorem FodC.keep {w w' : World} {S : Nat → Prop} {v : Value} {f : Option (List LE)} (h : FodC w S v f) (hk : Agree S w w') : FodC w' S v f := by
  cases f with
  | none => exact h
  | some es => obtain ⟨x, h1, h2, h3⟩ := h; exact ⟨x, h1, h2, h3.keep hk⟩
theorem FodC.sub {w : World} {S T : Nat → Prop} {v : Value} {f : Option (List LE)} (h : FodC w S v f) (hs : ∀ b, S b → T b) : FodC w T v f := by
  cases f with
  | none => exact h
  | some es => obtain ⟨x, h1, h2, h3⟩ := h; exact ⟨x, h1, h2, h3.sub hs⟩
theorem Mid.fullC {w wr : World} {es : List LE} {n : Nat} (h : Mid w wr es n n) (hn : es.length = n) (hle : n ≤ 16777000) : FodC wr (New w wr) (.slice (some ⟨w.heap.size, 0, none⟩) n n) (some es) := by
  obtain ⟨x, cp, h1, h2, h3⟩ := h.full hn (by omega)
  injection h1 with e1 e2 e3
  refine ⟨_, by rw [hn], by omega, e1 ▸ h3⟩
def MadeC (w : World) (f : Option (List LE)) (e : Ending) (w' : World) : Prop := ∃ v, e = .returned v ∧ FodC w' (New w w') v f ∧ Below w.heap.size w w'
def inQ (a : Option Addr) (zs : List QE) : Option (List LE) := a.map fun _ => zs.map QE.le

set_option maxRecDepth 100000 in
set_option maxHeartbeats 3200000 in
theorem build12 (w : World) (a : Option Addr) (n cp : Nat) (zs : List QE) (h : IsQs w a n cp zs) (hn : n ≤ 16384) (hok : ∀ z ∈ zs, OkQ z) : Calls Tryf.prog 12 #[.slice a n cp] w (MadeC w (inQ a zs)) := by
  obtain ⟨hl, hlc, hcm, hnil, hr⟩ := h
  cases a with
  | none =>
    obtain rfl := hnil rfl
    obtain rfl : n = 0 := Nat.le_zero.1 hlc
    have hne : ∀ W, (binOp .eql 22 (.slice none 0 0) (.slice none 0 0)).run Tryf.prog W = .ok (.bool true) W := fun W => by kernel_rfl
    go_enter Tryf.func12, Tryf.ntmps12
    go_wp2
    go_ret
    exact ⟨_, rfl, rfl, Below.refl _ _⟩
  | some x =>
    have hne : ∀ W, (binOp .eql 22 (.slice (some x) n cp) (.slice none 0 0)).run Tryf.prog W = .ok (.bool false) W := fun W => by kernel_rfl
    obtain ⟨i0, hi, hz0, hz1, hz2⟩ := info_parts infE
    have hmk := fun W => run_make_n (P := Tryf.prog) 28 91 i0 _ Tryf.underlying28 hi hz0 .i64 .i64 n n (Nat.le_refl _) (by rw [hz2]; omega) (by omega) W
    rw [hz1, cellsF_zero] at hmk
    have HL := Lib.hid hl
    have HR := Lib.hid hr
    have HK := Lib.hid hok
    clear hi hz0 hz1 hz2 hl hr hok hnil hcm hlc
    go_enter Tryf.func12, Tryf.ntmps12
    go_wp2_with fail
    go_loopw [4] (fun i wr => ∃ k : Nat, k ≤ n ∧ i = .int .i64 k ∧ Hid (Mid w wr (zs.map QE.le) n k) ∧ Hid (Below w.heap.size w wr)) (fun i _ => n - (intOf i).toNat)
    case atStart => exact ⟨0, Nat.zero_le _, rfl, Lib.hid (Mid.zero _ _ _), Lib.hid ((Below.refl _ _).alloc (Nat.le_refl _) _)⟩
    case round =>
      obtain ⟨k, hk, rfl, hmid, hbel⟩ := hrel
      obtain ⟨wo, hwo⟩ : ∃ wo, wo = wr := ⟨_, rfl⟩
      subst hwo
      by_cases hlt : k < n
      · obtain ⟨z, hz⟩ : ∃ z, zs[k]? = some z := ⟨zs[k]'(by rw [HL.out]; exact hlt), by simp⟩
        obtain ⟨b, off, hx, hb, x0, x1, x2, x3⟩ := IsQs.at HR.out hz
        obtain rfl : x = _ := Option.some.inj hx
        have HZ := Lib.hid hz
        have hzk := HK.out z (List.mem_of_getElem? hz)
        have hbw : b < wo.heap.size := Nat.lt_of_lt_of_le hb hbel.out.size
        have hwr := hbel.out.size
        replace x0 := (hbel.out.cell (p := ⟨b, off + k * 4, none⟩) hb).trans x0
        replace x1 := (hbel.out.cell (p := ⟨b, off + k * 4 + 1, none⟩) hb).trans x1
        replace x2 := (hbel.out.cell (p := ⟨b, off + k * 4 + 2, none⟩) hb).trans x2
        replace x3 := (hbel.out.cell (p := ⟨b, off + k * 4 + 3, none⟩) hb).trans x3
        clear hz hx hne hmk
        obtain ⟨kd, bl, ind, li⟩ := z
        unfold OkQ at hzk
        simp only at x0 x1 x2 x3 hzk
        obtain ⟨l, rfl⟩ : ∃ l : Nat, li = l := ⟨li.toNat, by omega⟩
        have hl16 : l ≤ 16384 := by omega
        have hkd : 0 ≤ kd ∧ kd ≤ 2 := by omega
        have HQE := Lib.hid (show QE.le ⟨kd, bl, ind, (l : Int)⟩ = ⟨kd, bl, ind, some (List.replicate l ⟨#[35, 32, 99]⟩)⟩ by simp [QE.le])
        clear hzk
        obtain ⟨i9, hi, hz0, hz1, hz2⟩ := info_parts inf9
        have hmk := fun W => run_make_n (P := Tryf.prog) 87 9 i9 _ Tryf.underlying87 hi hz0 .i64 .i64 l l (Nat.le_refl _) (by rw [hz2]; omega) (by omega) W
        rw [hz1, Nat.mul_one] at hmk
        generalize hZ : madeCells (Value.string ⟨#[]⟩).cells l = Z at hmk
        obtain ⟨Z, rfl⟩ : ∃ L : List Value, Z = L.toArray := ⟨Z.toList, by simp⟩
        obtain ⟨L, hL⟩ : ∃ L, L = (List.replicate l (⟨#[35, 32, 99]⟩ : ByteArray)).map Value.string := ⟨_, rfl⟩
        have HLE := Lib.hid hL
        have HLN := Lib.hid (show L.length = l by rw [hL]; simp)
        have HZn := Lib.hid (show Z.length = L.length by have := congrArg Array.size hZ; simp [size_madeCells, Value.cells] at this; rw [HLN.out]; omega)
        clear hZ hi hz0 hz1 hz2 hL
        have HB0 := Lib.hid (Blk.new wo 85 #[.int .i64 kd, .int .i64 bl, .int .i64 ind, .int .i64 l])
        have hsz1 : (wo.alloc (.cells #[.int .i64 kd, .int .i64 bl, .int .i64 ind, .int .i64 l] 85)).heap.size = wo.heap.size + 1 := by simp
        have HF0 := Lib.hid ((Below.refl wo.heap.size wo).alloc (Nat.le_refl _) (.cells #[.int .i64 kd, .int .i64 bl, .int .i64 ind, .int .i64 l] 85))
        go_wp2_with fail
        go_loopw [7] (fun i w2 => ∃ j : Nat, j ≤ l ∧ i = .int .i64 j ∧ Hid (Blk w2 (wo.heap.size + 1) 9 (fillA L Z j)) ∧ Hid (Below (wo.heap.size + 1) (wo.alloc (.cells #[.int .i64 kd, .int .i64 bl, .int .i64 ind, .int .i64 l] 85)) w2)) (fun i _ => l - (intOf i).toNat)
        case atStart => exact ⟨0, Nat.zero_le _, rfl, Lib.hid (by rw [fill_zero]; have := Blk.new (wo.alloc (.cells #[.int .i64 kd, .int .i64 bl, .int .i64 ind, .int .i64 l] 85)) 9 Z.toArray; rwa [hsz1] at this), Lib.hid ((Below.refl _ _).alloc (by rw [hsz1]; omega) _)⟩
        case round =>
          obtain ⟨j, hj, rfl, hblk, hbl2⟩ := hrel
          have HBX := Lib.hid ((hbl2.out.block wo.heap.size (by omega)).trans HB0.out)
          have hbx : Blk wr wo.heap.size 85 #[.int .i64 kd, .int .i64 bl, .int .i64 ind, .int .i64 l] := HBX.out
          have c0 := hbx.cell 0
          have c1 := hbx.cell 1
          have c2 := hbx.cell 2
          have c3 := hbx.cell 3
          simp at c0 c1 c2 c3
          have hwl := hbx.lt
          have hgl := hblk.out.lt
          clear hbx
          by_cases hjt : j < l
          · obtain ⟨u, hu⟩ := fill_at hblk.out HZn.out (k := j) (by rw [HLN.out]; exact hjt)
            have hfr := hblk.out.free j
            have HS := Lib.hid (hblk.out.set j (.string ⟨#[35, 32, 99]⟩))
            have HU := Lib.hid (fill_set' L Z j (.string ⟨#[35, 32, 99]⟩) HZn.out (by rw [HLE.out]; simp [hjt]))
            have HB := Lib.hid (hbl2.out.setCell (p := ⟨wo.heap.size + 1, j, none⟩) (Nat.le_refl _) (.string ⟨#[35, 32, 99]⟩))
            go_wp2
            go_roundw
            case rel => exact ⟨j + 1, by omega, by go_num, Lib.hid (by rw [← HU.out]; exact HS.out), HB⟩
            case measure => simp [intOf]; omega
          · obtain rfl : j = l := by omega
            have HF := Lib.hid (show Blk wr (wo.heap.size + 1) 9 L.toArray by have := hblk.out; rwa [fill_all L Z j (by rw [HLN.out]; exact Nat.le_refl _) (by rw [HZn.out, HLN.out]; exact Nat.le_refl _)] at this)
            have HCM : Hid (ComIs wr (New wo wr) (.slice (some ⟨wo.heap.size + 1, 0, none⟩) j j) (some (List.replicate j ⟨#[35, 32, 99]⟩))) := Lib.hid ⟨⟨wo.heap.size + 1, 0, none⟩, j, by rw [List.length_replicate], by rw [List.length_replicate]; omega, by have := HF.out.rdS (S := New wo wr) ⟨by omega, HF.out.lt⟩; rw [HLE.out] at this; simpa using this⟩
            have HB2 := Lib.hid (HF0.out.trans (hbl2.out.mono (Nat.le_succ _)))
            have HAG : Hid (Agree (Old wo) wo wr) := Lib.hid (Agree.of_below HB2.out fun b h => h)
            have hsz2 := HB2.out.size
            obtain ⟨u0, u1, u2, u3, y0, y1, y2, y3, f0, f1, f2, f3⟩ := hmid.out.spot (w2 := wr) HAG.out hlt
            have hgl2 : w.heap.size < wr.heap.size := Nat.lt_of_lt_of_le (by obtain ⟨els, _, _, h3⟩ := hmid.out; exact h3.lt) hsz2
            have K33 := Lib.hid (fun W => kind33 kd hkd W)
            clear x0 x1 x2 x3
            go_wp2_with fail
            refine wp_region_tail 12 (by kernel_rfl) (by kernel_rfl) ?_
            simp only [List.take_succ_cons, List.take_zero, List.drop_succ_cons, List.drop_zero]
            repeat still_step
            still_call ((K33.out _).mono fun e w1 h => ⟨h.1, h.2.symm⟩)
            repeat still_step
            refine wpStill_nil ?_
            have HST := Lib.hid (hmid.out.step (w2 := wr) (e := ⟨kd, bl, ind, some (List.replicate j ⟨#[35, 32, 99]⟩)⟩) HAG.out hsz2 HCM.out (by rw [List.getElem?_map, HZ.out]; exact congrArg some HQE.out) hlt)
            have HBE := Lib.hid ((hbel.out.trans (HB2.out.mono hbel.out.size)).grown (put4_grown wr w.heap.size k (.slice (some ⟨wo.heap.size + 1, 0, none⟩) j j) kd bl ind) (Nat.le_trans hbel.out.size hsz2) (by intro q hq; injection hq with hq; omega))
            go_wp2
            go_roundw
            case rel => exact ⟨k + 1, by omega, by go_num, Lib.hid (HST.out.drew), Lib.hid HBE.out.drew⟩
            case measure => simp [intOf]; omega
      · have hkn : k = n := by omega
        subst hkn
        have HF := Lib.hid (hmid.out.fullC (by rw [List.length_map, HL.out]) (by omega))
        go_wp2_with fail
        go_ret
        exact ⟨_, rfl, HF.out, hbel.out⟩
end Go.Proofs.YtlaghkppjdphnaaFmt
