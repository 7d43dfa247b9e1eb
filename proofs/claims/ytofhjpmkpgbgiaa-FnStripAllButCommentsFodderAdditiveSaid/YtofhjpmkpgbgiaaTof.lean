/- zzToFodder and zzCloneFodder: a fodder built anew. -/
import Derived.Test.YtofhjpmkpgbgiaaCln
import Derived.Deep.RegionHeld3
namespace Go.Proofs.Ytofhjpmkpgbgiaa
open Go.RowKit
set_option linter.unusedVariables false

/-- The row under way: its first k elements are laid, their comments behind it. -/
def Mid (w wr : World) (es : List LE) (n k : Nat) : Prop :=
  ∃ els : List El, ElsAre wr (fun b => w.heap.size < b ∧ b < wr.heap.size) els (es.take k) ∧ els.length = k ∧ Blk wr w.heap.size 50 (cellsF (padF els n)).toArray
theorem Mid.step {w wr w2 : World} {es : List LE} {n k : Nat} {e : LE} {v : Value} (h : Mid w wr es n k) (hb : Agree (Old wr) wr w2) (hsz : wr.heap.size ≤ w2.heap.size) (hc : ComIs w2 (New wr w2) v e.com) (he : es[k]? = some e) (hk : k < n) : Mid w (put4 w2 w.heap.size k v e.kind e.blanks e.indent) es n (k + 1) := by
  obtain ⟨els, h1, h2, h3⟩ := h
  have hlt := h3.lt
  have hg := put4_grown w2 w.heap.size k v e.kind e.blanks e.indent
  have hsz2 := hg.size
  refine ⟨els ++ [⟨v, e.kind, e.blanks, e.indent⟩], ?_, by simp [h2], put4_blk (show Blk w2 w.heap.size 50 _ from (hb _ hlt).trans h3) h2 hk _ _ _ _⟩
  rw [List.take_add_one, he]
  refine ElsAre.snoc (e := e) ?_ ⟨rfl, rfl, rfl, ?_⟩
  · refine ((h1.keep (hb.sub fun b hb => hb.2)).keep (Agree.of_grown hg fun b hb => ⟨by omega, by simp; omega⟩)).sub fun b hb => ⟨hb.1, by omega⟩
  · refine (hc.keep (Agree.of_grown hg fun b hb => ⟨hb.2, ?_⟩)).sub fun b hb => ⟨?_, ?_⟩
    · have := hb.1; simp; omega
    · have := hb.1; omega
    · have := hb.2; omega
theorem Mid.full {w wr : World} {es : List LE} {n : Nat} (h : Mid w wr es n n) (hn : es.length = n) (hle : n ≤ 16777216) : FodV wr (New w wr) (.slice (some ⟨w.heap.size, 0, none⟩) n n) (some es) := by
  obtain ⟨els, h1, h2, h3⟩ := h
  rw [List.take_of_length_le (by omega)] at h1
  have hp : padF els n = els := by have := padF_full els; rwa [h2] at this
  rw [hp] at h3
  refine ⟨_, _, by rw [hn], by omega, els, h1.sub fun b hb => ⟨by omega, hb.2⟩, ?_⟩
  have := h3.rdS (S := New w wr) ⟨Nat.le_refl _, h3.lt⟩
  simpa using this
theorem Mid.zero (w : World) (es : List LE) (n : Nat) : Mid w (w.alloc (.cells (cellsF (padF [] n)).toArray 50)) es n 0 := ⟨[], ElsAre.nil _ _, rfl, Blk.new _ _ _⟩
/-- What the store wants of the row. -/
theorem Mid.spot {w wr w2 : World} {es : List LE} {n k : Nat} (h : Mid w wr es n k) (hb : Agree (Old wr) wr w2) (hk : k < n) :
    ∃ u0 u1 u2 u3, w2.cell? ⟨w.heap.size, k * 4, none⟩ = some u0 ∧ w2.cell? ⟨w.heap.size, k * 4 + 1, none⟩ = some u1 ∧ w2.cell? ⟨w.heap.size, k * 4 + 2, none⟩ = some u2 ∧ w2.cell? ⟨w.heap.size, k * 4 + 3, none⟩ = some u3 ∧
      w2.frozen? ⟨w.heap.size, k * 4, none⟩ = false ∧ w2.frozen? ⟨w.heap.size, k * 4 + 1, none⟩ = false ∧ w2.frozen? ⟨w.heap.size, k * 4 + 2, none⟩ = false ∧ w2.frozen? ⟨w.heap.size, k * 4 + 3, none⟩ = false := by
  obtain ⟨els, h1, h2, h3⟩ := h
  have h4 : Blk w2 w.heap.size 50 _ := (hb _ h3.lt).trans h3
  obtain ⟨y0, y1, y2, y3⟩ := blk_at h4 (padF_at _ n k h2 hk)
  exact ⟨_, _, _, _, y0, y1, y2, y3, h4.free _, h4.free _, h4.free _, h4.free _⟩

def Made (w : World) (f : Option (List LE)) (e : Ending) (w' : World) : Prop := ∃ v, e = .returned v ∧ FodV w' (New w w') v f ∧ Below w.heap.size w w'

def inF (a : Option Addr) (zs : List ZE) : Option (List LE) := a.map fun _ => zs.map ZE.le

set_option maxRecDepth 100000 in
set_option maxHeartbeats 1600000 in
theorem tofod_any (w : World) (a : Option Addr) (n cp : Nat) (zs : List ZE) (h : IsZs w a n cp zs) (hn : n ≤ 1048576) (hc : ∀ z ∈ zs, z.cl ≤ 1048576) : Calls Try.prog 11 #[.slice a n cp] w (Made w (inF a zs)) := by
  obtain ⟨hl, hlc, hcm, hnil, hok, hr⟩ := h
  cases a with
  | none =>
    obtain rfl := hnil rfl
    obtain rfl : n = 0 := Nat.le_zero.1 hlc
    have hne : ∀ W, (binOp .eql 22 (.slice none 0 0) (.slice none 0 0)).run Try.prog W = .ok (.bool true) W := fun W => by kernel_rfl
    go_enter Try.func11, Try.ntmps11
    go_wp2
    go_ret
    exact ⟨_, rfl, rfl, Below.refl _ _⟩
  | some x =>
    have hne : ∀ W, (binOp .eql 22 (.slice (some x) n cp) (.slice none 0 0)).run Try.prog W = .ok (.bool false) W := fun W => by kernel_rfl
    obtain ⟨i0, hi, hz0, hz1, hz2⟩ := info_parts Try.inf50
    have hmk := fun W => run_make_n (P := Try.prog) 26 50 i0 _ Try.underlying26 hi hz0 .i64 .i64 n n (Nat.le_refl _) (by rw [hz2]; omega) (by omega) W
    rw [hz1, cellsF_zero] at hmk
    have HL := Lib.hid hl
    have HR := Lib.hid hr
    have HK := Lib.hid hok
    have HC := Lib.hid hc
    clear hi hz0 hz1 hz2 hl hr hok hc hnil hcm hlc
    go_enter Try.func11, Try.ntmps11
    go_wp2_with fail
    go_loopw [4] (fun i wr => ∃ k : Nat, k ≤ n ∧ i = .int .i64 k ∧ Hid (Mid w wr (zs.map ZE.le) n k) ∧ Hid (Below w.heap.size w wr)) (fun i _ => n - (intOf i).toNat)
    case atStart => exact ⟨0, Nat.zero_le _, rfl, Lib.hid (Mid.zero _ _ _), Lib.hid ((Below.refl _ _).alloc (Nat.le_refl _) _)⟩
    case round =>
      obtain ⟨k, hk, rfl, hmid, hbel⟩ := hrel
      by_cases hlt : k < n
      · obtain ⟨z, hz⟩ : ∃ z, zs[k]? = some z := ⟨zs[k]'(by rw [HL.out]; exact hlt), by simp⟩
        obtain ⟨b, off, hx, hb, x0, x1, x2, x3⟩ := IsZs.at (n := n) (c := cp) HR.out hz
        obtain rfl : x = _ := Option.some.inj hx
        have HZ := Lib.hid hz
        have hbw : b < wr.heap.size := Nat.lt_of_lt_of_le hb hbel.out.size
        have hbg : w.heap.size ≠ b := by omega
        replace x0 := (hbel.out.cell (p := ⟨b, off + k * 4, none⟩) hb).trans x0
        replace x1 := (hbel.out.cell (p := ⟨b, off + k * 4 + 1, none⟩) hb).trans x1
        replace x2 := (hbel.out.cell (p := ⟨b, off + k * 4 + 2, none⟩) hb).trans x2
        replace x3 := (hbel.out.cell (p := ⟨b, off + k * 4 + 3, none⟩) hb).trans x3
        have hcom : ComIs wr.drew (Old wr.drew) (.slice z.ca z.cl z.cc) (z.ca.map fun _ => z.ss) := (((HK.out z (List.mem_of_getElem? hz)).2.2.2.below hbel.out).com (HC.out z (List.mem_of_getElem? hz))).keep (Agree.drew _ _)
        have KC := Lib.hid (clone_any _ _ _ hcom)
        clear hz hx hcom
        obtain ⟨kd, bl, ind, ca, cl, cc, ss⟩ := z
        simp only at x0 x1 x2 x3
        go_wp2_with fail
        go_region_held3 (fun w' => w'.cell? ⟨b, off + k * 4, none⟩ = some (.int .i64 kd) ∧ w'.cell? ⟨b, off + k * 4 + 1, none⟩ = some (.int .i64 bl) ∧ w'.cell? ⟨b, off + k * 4 + 2, none⟩ = some (.int .i64 ind) ∧ w'.cell? ⟨b, off + k * 4 + 3, none⟩ = some (.slice ca cl cc)) (first | exact ⟨x0, x1, x2, x3⟩ | exact ⟨z0, z1, z2, z3⟩ | go_keep) (first | (go_at_call 26; refine KC.out.mono ?_; rintro e w2 ⟨v', rfl, hcom, hb2⟩; have z0 := (hb2.cell (p := ⟨b, off + k * 4, none⟩) hbw).trans x0; have z1 := (hb2.cell (p := ⟨b, off + k * 4 + 1, none⟩) hbw).trans x1; have z2 := (hb2.cell (p := ⟨b, off + k * 4 + 2, none⟩) hbw).trans x2; have z3 := (hb2.cell (p := ⟨b, off + k * 4 + 3, none⟩) hbw).trans x3; have hag : Agree (Old wr) wr w2 := Agree.of_below (S := Old wr) (w := wr.drew) hb2 (fun b h => h); obtain ⟨u0, u1, u2, u3, y0, y1, y2, y3, f0, f1, f2, f3⟩ := hmid.out.spot (w2 := w2) hag hlt; obtain ⟨ca', cl', cc', rfl⟩ := hcom.is_slice; have HCM := Lib.hid hcom; have HB2 := Lib.hid hb2; have HAG := Lib.hid hag; have hsz2 := hb2.size; clear hag hb2 hcom))
        have HST := Lib.hid (hmid.out.step (e := ⟨kd, bl, ind, ca.map fun _ => ss⟩) HAG.out hsz2 HCM.out (by rw [List.getElem?_map, HZ.out]; rfl) hlt)
        have HBE := Lib.hid (((hbel.out.drew).trans (HB2.out.mono hbel.out.size)).grown (put4_grown w2 w.heap.size k (.slice ca' cl' cc') kd bl ind) (Nat.le_trans hbel.out.size hsz2) (by intro q hq; injection hq with hq; omega))
        clear z0 z1 z2 z3 y0 y1 y2 y3 f0 f1 f2 f3
        go_wp2
        go_roundw
        case rel => exact ⟨k + 1, by omega, by go_num, HST, HBE⟩
        case measure => simp [intOf]; omega
      · have hkn : k = n := by omega
        subst hkn
        have HF := Lib.hid (hmid.out.full (by rw [List.length_map, HL.out]) (by omega))
        go_wp2_with fail
        go_ret
        exact ⟨_, rfl, HF.out, hbel.out⟩

set_option maxRecDepth 100000 in
set_option maxHeartbeats 1600000 in
theorem clonef_any (w : World) (v : Value) (f : Option (List LE)) (h : FodV w (Old w) v f) : Calls Try.prog 13 #[v] w (Made w f) := by
  cases f with
  | none =>
    obtain rfl : v = .slice none 0 0 := h
    have hne : ∀ W, (binOp .eql 26 (.slice none 0 0) (.slice none 0 0)).run Try.prog W = .ok (.bool true) W := fun W => by kernel_rfl
    go_enter Try.func13, Try.ntmps13
    go_wp2
    go_ret
    exact ⟨_, rfl, rfl, Below.refl _ _⟩
  | some es =>
    obtain ⟨x, cp, rfl, hn, hf⟩ := h
    generalize hnn : es.length = n at *
    have hne : ∀ W, (binOp .eql 26 (.slice (some x) n cp) (.slice none 0 0)).run Try.prog W = .ok (.bool false) W := fun W => by kernel_rfl
    obtain ⟨i0, hi, hz0, hz1, hz2⟩ := info_parts Try.inf50
    have hmk := fun W => run_make_n (P := Try.prog) 26 50 i0 _ Try.underlying26 hi hz0 .i64 .i64 n n (Nat.le_refl _) (by rw [hz2]; omega) (by omega) W
    rw [hz1, cellsF_zero] at hmk
    have HL := Lib.hid hnn
    have HF := Lib.hid hf
    clear hi hz0 hz1 hz2 hnn hf
    go_enter Try.func13, Try.ntmps13
    go_wp2_with fail
    go_loopw [4] (fun i wr => ∃ k : Nat, k ≤ n ∧ i = .int .i64 k ∧ Hid (Mid w wr es n k) ∧ Hid (Below w.heap.size w wr)) (fun i _ => n - (intOf i).toNat)
    case atStart => exact ⟨0, Nat.zero_le _, rfl, Lib.hid (Mid.zero _ _ _), Lib.hid ((Below.refl _ _).alloc (Nat.le_refl _) _)⟩
    case round =>
      obtain ⟨k, hk, rfl, hmid, hbel⟩ := hrel
      by_cases hlt : k < n
      · obtain ⟨e, he⟩ : ∃ e, es[k]? = some e := ⟨es[k]'(by rw [HL.out]; exact hlt), by simp⟩
        have hag0 : Agree (Old w) w wr := Agree.of_below hbel.out fun b h => h
        obtain ⟨b, off, com, hx, hb, hcm, x3, x0, x1, x2⟩ := (HF.out.keep hag0).at he
        obtain rfl : x = _ := Option.some.inj hx
        have HE := Lib.hid he
        have hb : b < w.heap.size := hb
        have hbw : b < wr.heap.size := Nat.lt_of_lt_of_le hb hbel.out.size
        have hbg : w.heap.size ≠ b := by omega
        obtain ⟨ca, cl, cc, rfl⟩ := hcm.is_slice
        have hcom : ComIs wr.drew (Old wr.drew) (.slice ca cl cc) e.com := (hcm.sub fun b (h : b < w.heap.size) => (Nat.lt_of_lt_of_le h hbel.out.size : b < wr.heap.size)).keep (Agree.drew _ _)
        have KC := Lib.hid (clone_any _ _ _ hcom)
        clear he hx hcom hcm hag0
        obtain ⟨kd, bl, ind, cm⟩ := e
        simp only at x0 x1 x2 x3
        go_wp2_with fail
        go_region_held3 (fun w' => w'.cell? ⟨b, off + k * 4, none⟩ = some (.slice ca cl cc) ∧ w'.cell? ⟨b, off + k * 4 + 1, none⟩ = some (.int .i64 kd) ∧ w'.cell? ⟨b, off + k * 4 + 2, none⟩ = some (.int .i64 bl) ∧ w'.cell? ⟨b, off + k * 4 + 3, none⟩ = some (.int .i64 ind)) (first | exact ⟨x3, x0, x1, x2⟩ | exact ⟨z3, z0, z1, z2⟩ | go_keep) (first | (go_at_call 26; refine KC.out.mono ?_; rintro e w2 ⟨v', rfl, hcom, hb2⟩; have z3 := (hb2.cell (p := ⟨b, off + k * 4, none⟩) hbw).trans x3; have z0 := (hb2.cell (p := ⟨b, off + k * 4 + 1, none⟩) hbw).trans x0; have z1 := (hb2.cell (p := ⟨b, off + k * 4 + 2, none⟩) hbw).trans x1; have z2 := (hb2.cell (p := ⟨b, off + k * 4 + 3, none⟩) hbw).trans x2; have hag : Agree (Old wr) wr w2 := Agree.of_below (S := Old wr) (w := wr.drew) hb2 (fun b h => h); obtain ⟨u0, u1, u2, u3, y0, y1, y2, y3, f0, f1, f2, f3⟩ := hmid.out.spot (w2 := w2) hag hlt; obtain ⟨ca', cl', cc', rfl⟩ := hcom.is_slice; have HCM := Lib.hid hcom; have HB2 := Lib.hid hb2; have HAG := Lib.hid hag; have hsz2 := hb2.size; clear hag hb2 hcom))
        have HST := Lib.hid (hmid.out.step (e := ⟨kd, bl, ind, cm⟩) HAG.out hsz2 HCM.out HE.out hlt)
        have HBE := Lib.hid (((hbel.out.drew).trans (HB2.out.mono hbel.out.size)).grown (put4_grown w2 w.heap.size k (.slice ca' cl' cc') kd bl ind) (Nat.le_trans hbel.out.size hsz2) (by intro q hq; injection hq with hq; omega))
        clear z0 z1 z2 z3 y0 y1 y2 y3 f0 f1 f2 f3
        go_wp2
        go_roundw
        case rel => exact ⟨k + 1, by omega, by go_num, HST, HBE⟩
        case measure => simp [intOf]; omega
      · have hkn : k = n := by omega
        subst hkn
        have HFF := Lib.hid (hmid.out.full HL.out hn)
        go_wp2_with fail
        go_ret
        exact ⟨_, rfl, HFF.out, hbel.out⟩
end Go.Proofs.Ytofhjpmkpgbgiaa
