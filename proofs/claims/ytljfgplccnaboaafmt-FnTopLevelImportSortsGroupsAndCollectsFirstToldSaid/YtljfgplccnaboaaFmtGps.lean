/- zzGroups. -/
import Derived.Test.YtljfgplccnaboaaFmtCln
namespace Go.Proofs.YtljfgplccnaboaaFmt
open Go.RowKit
set_option linter.unusedVariables false

/-- The group's number at each place. -/
def grpN (bs : List Bool) : Nat → Nat
  | 0 => 0
  | i + 1 => grpN bs i + (if bs.getD (i + 1) false then 1 else 0)
theorem grpN_le (bs : List Bool) (i : Nat) : grpN bs i ≤ i := by
  induction i with
  | zero => exact Nat.le_refl _
  | succ i ih => unfold grpN; split <;> omega
def grpL (bs : List Bool) (n : Nat) : List Value := (List.range n).map fun i => .int .i64 (grpN bs i)
theorem inf3 : (Tryf.prog.info? 3).map (fun i => (i.zero, i.size, i.bytes)) = some (some (.int .i64 0), 1, 8) := by kernel_rfl
def Grouped (w : World) (bs : List Bool) (n : Nat) (e : Ending) (w' : World) : Prop := ∃ g, e = .returned (.slice (some ⟨g, 0, none⟩) n n) ∧ w.heap.size ≤ g ∧ Blk w' g 3 (grpL bs n).toArray ∧ Below w.heap.size w w'
set_option maxRecDepth 100000 in
set_option maxHeartbeats 3200000 in
theorem groups27 (w : World) (a : Option Addr) (nb c n : Nat) (bs : List Bool) (hl : bs.length = nb) (hnb : nb ≤ 4096) (hn : n ≤ 4096) (hr : Rd w w.heap.size a (bs.map Value.bool)) : Calls Tryf.prog 27 #[.slice a nb c, .int .i64 n] w (Grouped w bs n) := by
  unfold Grouped
  have HN := Lib.hid hl
  have HR := Lib.hid hr
  clear hl hr
  obtain ⟨i0, hi, hz0, hz1, hz2⟩ := info_partsC inf3
  have hmk := fun W => run_make_n (P := Tryf.prog) 83 3 i0 _ Tryf.underlying83 hi hz0 .i64 .i64 n n (Nat.le_refl _) (by rw [hz2]; omega) (by omega) W
  rw [hz1, Nat.mul_one] at hmk
  generalize hZ : madeCells (Value.cells (.int .i64 0)) n = Z at hmk
  obtain ⟨Z, rfl⟩ : ∃ L : List Value, Z = L.toArray := ⟨Z.toList, by simp⟩
  have hzz : Z = List.replicate n (.int .i64 0) := by
    have := congrArg Array.toList hZ
    simp [madeCells, Value.cells] at this
    rw [← this]
    apply List.ext_getElem?
    intro j
    rcases Nat.lt_or_ge j n with h | h
    · simp [h, Nat.mod_one]
    · simp [h]
  obtain ⟨L, hL⟩ : ∃ L, L = grpL bs n := ⟨_, rfl⟩
  have HLE := Lib.hid hL
  have HLN := Lib.hid (show L.length = n by rw [hL]; simp [grpL])
  have HZ := Lib.hid (show Z.length = L.length by rw [HLN.out, hzz]; simp)
  have H1 : Hid (fillA L Z 1 = Z.toArray) := Lib.hid (by
    unfold fillA
    rw [hL, hzz]
    congr 1
    cases n with
    | zero => simp [grpL]
    | succ n => simp [grpL, List.replicate_succ, List.range_succ_eq_map, grpN])
  clear hZ hi hz0 hz1 hz2 hL hzz
  go_enter Tryf.func27, Tryf.ntmps27
  go_wp2_with fail
  go_loopw [6] (fun i wr => ∃ j : Nat, j ≤ n ∧ i = .int .i64 ((j + 1 : Nat) : Int) ∧ Hid (Blk wr w.heap.size 3 (fillA L Z (j + 1))) ∧ Hid (Below w.heap.size w wr)) (fun i _ => n + 1 - (intOf i).toNat)
  case atStart => exact ⟨0, Nat.zero_le _, rfl, Lib.hid (by rw [H1.out]; exact Blk.new _ _ _), Lib.hid ((Below.refl _ _).alloc (Nat.le_refl _) _)⟩
  case round =>
    obtain ⟨j, hj, rfl, hblk, hbel⟩ := hrel
    by_cases hlt : j + 1 < n
    · have hj1 : (((j + 1 : Nat) : Int) - 1) = (j : Int) := by omega
      have c0 : wr.cell? ⟨w.heap.size, j, none⟩ = some (.int .i64 (grpN bs j)) := by
        rw [hblk.out.cell, fill_old L Z (j + 1) j HZ.out (by omega) (by rw [HLN.out]; omega), HLE.out]
        simp [grpL, show j < n by omega]
      obtain ⟨u, hu⟩ := fill_at hblk.out HZ.out (k := j + 1) (by rw [HLN.out]; exact hlt)
      have hfr := hblk.out.free (j + 1)
      have hsz := hblk.out.lt
      have hge := grpN_le bs j
      have HU := Lib.hid (fill_set' L Z (j + 1) (.int .i64 (grpN bs (j + 1))) HZ.out (by rw [HLE.out]; simp [grpL, hlt]))
      have HGS := Lib.hid (show grpN bs (j + 1) = grpN bs j + (if bs.getD (j + 1) false then 1 else 0) from rfl)
      generalize grpN bs j = gj at *
      generalize grpN bs (j + 1) = gk at *
      by_cases hb : j + 1 < nb
      · obtain ⟨b, hbb⟩ : ∃ b, bs[j + 1]? = some b := ⟨bs[j + 1]'(by rw [HN.out]; exact hb), by simp⟩
        obtain ⟨bk, off, rfl, hbl, hc⟩ := HR.out.pos (by simp [HN.out]; omega)
        have hcell : wr.cell? ⟨bk, off + (j + 1), none⟩ = some (.bool b) := (hbel.out.cell (p := ⟨bk, off + (j + 1), none⟩) hbl).trans (hc (j + 1) _ (by simp [hbb]))
        have hgd : bs.getD (j + 1) false = b := by simp [List.getD, hbb]
        rw [hgd] at HGS
        clear hc hgd hbb
        cases b
        · have HS := Lib.hid (hblk.out.set (j + 1) (.int .i64 gj))
          have HB := Lib.hid (hbel.out.setCell (p := ⟨w.heap.size, j + 1, none⟩) (Nat.le_refl _) (.int .i64 gj))
          go_wp2
          go_roundw
          case rel => exact ⟨j + 1, by omega, by go_num, Lib.hid (by rw [← HU.out, show gk = gj by have := HGS.out; simpa using this]; exact HS.out), HB⟩
          case measure => simp [intOf]; omega
        · have HS := Lib.hid ((hblk.out.set (j + 1) (.int .i64 gj)).set (j + 1) (.int .i64 ((gj : Int) + 1)))
          have HB := Lib.hid ((hbel.out.setCell (p := ⟨w.heap.size, j + 1, none⟩) (Nat.le_refl _) (.int .i64 gj)).setCell (p := ⟨w.heap.size, j + 1, none⟩) (Nat.le_refl _) (.int .i64 ((gj : Int) + 1)))
          go_wp2
          go_roundw
          case rel => exact ⟨j + 1, by omega, by go_num, Lib.hid (by have e := HGS.out; simp at e; have h := HS.out; rw [Array.setIfInBounds_setIfInBounds] at h; rw [← HU.out, e]; exact h), HB⟩
          case measure => simp [intOf]; omega
      · have hgd : bs.getD (j + 1) false = false := by simp [List.getD, List.getElem?_eq_none (show bs.length ≤ j + 1 by rw [HN.out]; omega)]
        rw [hgd] at HGS
        clear hgd
        have HS := Lib.hid (hblk.out.set (j + 1) (.int .i64 gj))
        have HB := Lib.hid (hbel.out.setCell (p := ⟨w.heap.size, j + 1, none⟩) (Nat.le_refl _) (.int .i64 gj))
        go_wp2
        go_roundw
        case rel => exact ⟨j + 1, by omega, by go_num, Lib.hid (by rw [← HU.out, show gk = gj by have := HGS.out; simpa using this]; exact HS.out), HB⟩
        case measure => simp [intOf]; omega
    · have HF := Lib.hid (show Blk wr w.heap.size 3 L.toArray by have := hblk.out; rwa [fill_all L Z (j + 1) (by rw [HLN.out]; omega) (by rw [HZ.out, HLN.out]; omega)] at this)
      go_wp2_with fail
      go_ret
      exact ⟨w.heap.size, rfl, Nat.le_refl _, by rw [← HLE.out]; exact HF.out, hbel.out⟩
end Go.Proofs.YtljfgplccnaboaaFmt
