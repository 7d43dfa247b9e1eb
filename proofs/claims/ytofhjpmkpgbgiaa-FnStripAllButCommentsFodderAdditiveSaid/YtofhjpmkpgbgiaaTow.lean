/- A fodder built anew, with the word that its row is the call's own. -/
import Derived.Test.YtofhjpmkpgbgiaaApp
namespace Go.Proofs.Ytofhjpmkpgbgiaa
open Go.RowKit
set_option linter.unusedVariables false

def MadeO (w : World) (es : List LE) (e : Ending) (w' : World) : Prop := ∃ v, e = .returned v ∧ OwnF w' w.heap.size (fun b => w.heap.size < b ∧ b < w'.heap.size) v es ∧ Below w.heap.size w w'
theorem Mid.own {w wr : World} {es : List LE} {n : Nat} (h : Mid w wr es n n) (hn : es.length = n) (hle : n ≤ 16777216) : OwnF wr w.heap.size (fun b => w.heap.size < b ∧ b < wr.heap.size) (.slice (some ⟨w.heap.size, 0, none⟩) n n) es := by
  obtain ⟨els, h1, h2, h3⟩ := h
  rw [List.take_of_length_le (by omega)] at h1
  have hp : padF els n = els := by have := padF_full els; rwa [h2] at this
  rw [hp] at h3
  refine ⟨els, h1, ⟨cellsF_len els, .inr ⟨w.heap.size, n, _, by rw [h2], Nat.zero_le _, h3, by omega, by unfold maxLen; omega, by rw [List.size_toArray, cellsF_len, h2], ?_⟩⟩, fun q hq => ?_⟩
  · rw [h2]
    simp only [List.take_of_length_le (show (cellsF els).length ≤ n * 4 by rw [cellsF_len, h2]; exact Nat.le_refl _)]
  · simpa [Value.ownBlock] using hq.symm

set_option maxRecDepth 100000 in
set_option maxHeartbeats 1600000 in
theorem tofod_own (w : World) (a : Option Addr) (n cp : Nat) (zs : List ZE) (h : IsZs w a n cp zs) (hn : n ≤ 1048576) (hc : ∀ z ∈ zs, z.cl ≤ 1048576) : Calls Try.prog 11 #[.slice a n cp] w (MadeO w ((inF a zs).getD [])) := by
  obtain ⟨hl, hlc, hcm, hnil, hok, hr⟩ := h
  cases a with
  | none =>
    obtain rfl := hnil rfl
    obtain rfl : n = 0 := Nat.le_zero.1 hlc
    have hne : ∀ W, (binOp .eql 22 (.slice none 0 0) (.slice none 0 0)).run Try.prog W = .ok (.bool true) W := fun W => by kernel_rfl
    go_enter Try.func11, Try.ntmps11
    go_wp2
    go_ret
    exact ⟨_, rfl, OwnF.nil _ _ _, Below.refl _ _⟩
  | some x =>
    have hne : ∀ W, (binOp .eql 22 (.slice (some x) n cp) (.slice none 0 0)).run Try.prog W = .ok (.bool false) W := fun W => by kernel_rfl
    obtain ⟨i0, hi, hz0, hz1, hz2⟩ := info_parts Try.inf50
    have hmk := fun W => run_make_n (P := Try.prog) 26 50 i0 _ Try.underlying26 hi hz0 .i64 .i64 n n (Nat.le_refl _) (by rw [hz2]; omega) (by omega) W
    rw [hz1, cellsF_zero] at hmk
    have HL := Lib.hid hl
    have HR := Lib.hid hr
    have HK := Lib.hid hok
    have HC := Lib.hid hc
    clear hi hz0 hz1 hz2 hl hr hok hc hnil hcm hlc
    go_enter Try.func11, Try.ntmps11
    go_wp2_with fail
    go_loopw [4] (fun i wr => ∃ k : Nat, k ≤ n ∧ i = .int .i64 k ∧ Hid (Mid w wr (zs.map ZE.le) n k) ∧ Hid (Below w.heap.size w wr)) (fun i _ => n - (intOf i).toNat)
    case atStart => exact ⟨0, Nat.zero_le _, rfl, Lib.hid (Mid.zero _ _ _), Lib.hid ((Below.refl _ _).alloc (Nat.le_refl _) _)⟩
    case round =>
      obtain ⟨k, hk, rfl, hmid, hbel⟩ := hrel
      by_cases hlt : k < n
      · obtain ⟨z, hz⟩ : ∃ z, zs[k]? = some z := ⟨zs[k]'(by rw [HL.out]; exact hlt), by simp⟩
        obtain ⟨b, off, hx, hb, x0, x1, x2, x3⟩ := IsZs.at (n := n) (c := cp) HR.out hz
        obtain rfl : x = _ := Option.some.inj hx
        have HZ := Lib.hid hz
        have hbw : b < wr.heap.size := Nat.lt_of_lt_of_le hb hbel.out.size
        have hbg : w.heap.size ≠ b := by omega
        replace x0 := (hbel.out.cell (p := ⟨b, off + k * 4, none⟩) hb).trans x0
        replace x1 := (hbel.out.cell (p := ⟨b, off + k * 4 + 1, none⟩) hb).trans x1
        replace x2 := (hbel.out.cell (p := ⟨b, off + k * 4 + 2, none⟩) hb).trans x2
        replace x3 := (hbel.out.cell (p := ⟨b, off + k * 4 + 3, none⟩) hb).trans x3
        have hcom : ComIs wr.drew (Old wr.drew) (.slice z.ca z.cl z.cc) (z.ca.map fun _ => z.ss) := (((HK.out z (List.mem_of_getElem? hz)).2.2.2.below hbel.out).com (HC.out z (List.mem_of_getElem? hz))).keep (Agree.drew _ _)
        have KC := Lib.hid (clone_any _ _ _ hcom)
        clear hz hx hcom
        obtain ⟨kd, bl, ind, ca, cl, cc, ss⟩ := z
        simp only at x0 x1 x2 x3
        go_wp2_with fail
        go_region_held3 (fun w' => w'.cell? ⟨b, off + k * 4, none⟩ = some (.int .i64 kd) ∧ w'.cell? ⟨b, off + k * 4 + 1, none⟩ = some (.int .i64 bl) ∧ w'.cell? ⟨b, off + k * 4 + 2, none⟩ = some (.int .i64 ind) ∧ w'.cell? ⟨b, off + k * 4 + 3, none⟩ = some (.slice ca cl cc)) (first | exact ⟨x0, x1, x2, x3⟩ | exact ⟨z0, z1, z2, z3⟩ | go_keep) (first | (go_at_call 26; refine KC.out.mono ?_; rintro e w2 ⟨v', rfl, hcom, hb2⟩; have z0 := (hb2.cell (p := ⟨b, off + k * 4, none⟩) hbw).trans x0; have z1 := (hb2.cell (p := ⟨b, off + k * 4 + 1, none⟩) hbw).trans x1; have z2 := (hb2.cell (p := ⟨b, off + k * 4 + 2, none⟩) hbw).trans x2; have z3 := (hb2.cell (p := ⟨b, off + k * 4 + 3, none⟩) hbw).trans x3; have hag : Agree (Old wr) wr w2 := Agree.of_below (S := Old wr) (w := wr.drew) hb2 (fun b h => h); obtain ⟨u0, u1, u2, u3, y0, y1, y2, y3, f0, f1, f2, f3⟩ := hmid.out.spot (w2 := w2) hag hlt; obtain ⟨ca', cl', cc', rfl⟩ := hcom.is_slice; have HCM := Lib.hid hcom; have HB2 := Lib.hid hb2; have HAG := Lib.hid hag; have hsz2 := hb2.size; clear hag hb2 hcom))
        have HST := Lib.hid (hmid.out.step (e := ⟨kd, bl, ind, ca.map fun _ => ss⟩) HAG.out hsz2 HCM.out (by rw [List.getElem?_map, HZ.out]; rfl) hlt)
        have HBE := Lib.hid (((hbel.out.drew).trans (HB2.out.mono hbel.out.size)).grown (put4_grown w2 w.heap.size k (.slice ca' cl' cc') kd bl ind) (Nat.le_trans hbel.out.size hsz2) (by intro q hq; injection hq with hq; omega))
        clear z0 z1 z2 z3 y0 y1 y2 y3 f0 f1 f2 f3
        go_wp2
        go_roundw
        case rel => exact ⟨k + 1, by omega, by go_num, HST, HBE⟩
        case measure => simp [intOf]; omega
      · have hkn : k = n := by omega
        subst hkn
        have HF := Lib.hid (hmid.out.own (by rw [List.length_map, HL.out]) (by omega))
        go_wp2_with fail
        go_ret
        exact ⟨_, rfl, HF.out, hbel.out⟩

set_option maxRecDepth 100000 in
set_option maxHeartbeats 1600000 in
theorem clonef_own (w : World) (v : Value) (f : Option (List LE)) (h : FodV w (Old w) v f) : Calls Try.prog 13 #[v] w (MadeO w (f.getD [])) := by
  cases f with
  | none =>
    obtain rfl : v = .slice none 0 0 := h
    have hne : ∀ W, (binOp .eql 26 (.slice none 0 0) (.slice none 0 0)).run Try.prog W = .ok (.bool true) W := fun W => by kernel_rfl
    go_enter Try.func13, Try.ntmps13
    go_wp2
    go_ret
    exact ⟨_, rfl, OwnF.nil _ _ _, Below.refl _ _⟩
  | some es =>
    obtain ⟨x, cp, rfl, hn, hf⟩ := h
    generalize hnn : es.length = n at *
    have hne : ∀ W, (binOp .eql 26 (.slice (some x) n cp) (.slice none 0 0)).run Try.prog W = .ok (.bool false) W := fun W => by kernel_rfl
    obtain ⟨i0, hi, hz0, hz1, hz2⟩ := info_parts Try.inf50
    have hmk := fun W => run_make_n (P := Try.prog) 26 50 i0 _ Try.underlying26 hi hz0 .i64 .i64 n n (Nat.le_refl _) (by rw [hz2]; omega) (by omega) W
    rw [hz1, cellsF_zero] at hmk
    have HL := Lib.hid hnn
    have HF := Lib.hid hf
    clear hi hz0 hz1 hz2 hnn hf
    go_enter Try.func13, Try.ntmps13
    go_wp2_with fail
    go_loopw [4] (fun i wr => ∃ k : Nat, k ≤ n ∧ i = .int .i64 k ∧ Hid (Mid w wr es n k) ∧ Hid (Below w.heap.size w wr)) (fun i _ => n - (intOf i).toNat)
    case atStart => exact ⟨0, Nat.zero_le _, rfl, Lib.hid (Mid.zero _ _ _), Lib.hid ((Below.refl _ _).alloc (Nat.le_refl _) _)⟩
    case round =>
      obtain ⟨k, hk, rfl, hmid, hbel⟩ := hrel
      by_cases hlt : k < n
      · obtain ⟨e, he⟩ : ∃ e, es[k]? = some e := ⟨es[k]'(by rw [HL.out]; exact hlt), by simp⟩
        have hag0 : Agree (Old w) w wr := Agree.of_below hbel.out fun b h => h
        obtain ⟨b, off, com, hx, hb, hcm, x3, x0, x1, x2⟩ := (HF.out.keep hag0).at he
        obtain rfl : x = _ := Option.some.inj hx
        have HE := Lib.hid he
        have hb : b < w.heap.size := hb
        have hbw : b < wr.heap.size := Nat.lt_of_lt_of_le hb hbel.out.size
        have hbg : w.heap.size ≠ b := by omega
        obtain ⟨ca, cl, cc, rfl⟩ := hcm.is_slice
        have hcom : ComIs wr.drew (Old wr.drew) (.slice ca cl cc) e.com := (hcm.sub fun b (h : b < w.heap.size) => (Nat.lt_of_lt_of_le h hbel.out.size : b < wr.heap.size)).keep (Agree.drew _ _)
        have KC := Lib.hid (clone_any _ _ _ hcom)
        clear he hx hcom hcm hag0
        obtain ⟨kd, bl, ind, cm⟩ := e
        simp only at x0 x1 x2 x3
        go_wp2_with fail
        go_region_held3 (fun w' => w'.cell? ⟨b, off + k * 4, none⟩ = some (.slice ca cl cc) ∧ w'.cell? ⟨b, off + k * 4 + 1, none⟩ = some (.int .i64 kd) ∧ w'.cell? ⟨b, off + k * 4 + 2, none⟩ = some (.int .i64 bl) ∧ w'.cell? ⟨b, off + k * 4 + 3, none⟩ = some (.int .i64 ind)) (first | exact ⟨x3, x0, x1, x2⟩ | exact ⟨z3, z0, z1, z2⟩ | go_keep) (first | (go_at_call 26; refine KC.out.mono ?_; rintro e w2 ⟨v', rfl, hcom, hb2⟩; have z3 := (hb2.cell (p := ⟨b, off + k * 4, none⟩) hbw).trans x3; have z0 := (hb2.cell (p := ⟨b, off + k * 4 + 1, none⟩) hbw).trans x0; have z1 := (hb2.cell (p := ⟨b, off + k * 4 + 2, none⟩) hbw).trans x1; have z2 := (hb2.cell (p := ⟨b, off + k * 4 + 3, none⟩) hbw).trans x2; have hag : Agree (Old wr) wr w2 := Agree.of_below (S := Old wr) (w := wr.drew) hb2 (fun b h => h); obtain ⟨u0, u1, u2, u3, y0, y1, y2, y3, f0, f1, f2, f3⟩ := hmid.out.spot (w2 := w2) hag hlt; obtain ⟨ca', cl', cc', rfl⟩ := hcom.is_slice; have HCM := Lib.hid hcom; have HB2 := Lib.hid hb2; have HAG := Lib.hid hag; have hsz2 := hb2.size; clear hag hb2 hcom))
        have HST := Lib.hid (hmid.out.step (e := ⟨kd, bl, ind, cm⟩) HAG.out hsz2 HCM.out HE.out hlt)
        have HBE := Lib.hid (((hbel.out.drew).trans (HB2.out.mono hbel.out.size)).grown (put4_grown w2 w.heap.size k (.slice ca' cl' cc') kd bl ind) (Nat.le_trans hbel.out.size hsz2) (by intro q hq; injection hq with hq; omega))
        clear z0 z1 z2 z3 y0 y1 y2 y3 f0 f1 f2 f3
        go_wp2
        go_roundw
        case rel => exact ⟨k + 1, by omega, by go_num, HST, HBE⟩
        case measure => simp [intOf]; omega
      · have hkn : k = n := by omega
        subst hkn
        have HFF := Lib.hid (hmid.out.own HL.out hn)
        go_wp2_with fail
        go_ret
        exact ⟨_, rfl, HFF.out, hbel.out⟩
end Go.Proofs.Ytofhjpmkpgbgiaa
