/- zzGroupSorted answers true. -/
import Derived.Test.YtljfgplccnaboaaFmtGps
import Derived.Test.YtljfgplccnaboaaFmtVix
import Derived.Test.YtljfgplccnaboaaFmtPls
import Derived.Test.YtljfgplccnaboaaFmtRws
namespace Go.Proofs.YtljfgplccnaboaaFmt
open Go.RowKit Go.Lib
set_option linter.unusedVariables false

/-- What zzGroupSorted asks, as plain data. -/
structure GSok (ps : List ByteArray) (bs : List Bool) (P : List (ByteArray × ByteArray)) (idx : Nat → Nat) : Prop where
  len : P.length = ps.length
  lt : ∀ k, k < ps.length → idx k < ps.length
  key : ∀ (k : Nat) (p : ByteArray × ByteArray), P[k]? = some p → ps[idx k]? = some p.1
  var : ∀ (k : Nat) (p : ByteArray × ByteArray), P[k]? = some p → p.2 = varN (idx k)
  grp : ∀ k, k < ps.length → grpN bs (idx k) = grpN bs k
  inj : ∀ j k, j < k → k < ps.length → idx j ≠ idx k
  srt : ∀ (k : Nat) (p q : ByteArray × ByteArray), P[k]? = some p → P[k + 1]? = some q → grpN bs (k + 1) = grpN bs k → ltS q.1 p.1 = false
/-- The row 'seen' behind k rounds. -/
def seenL (idx : Nat → Nat) (n k : Nat) : List Value := (List.range n).map fun i => .bool ((List.range k).any fun j => idx j == i)
theorem seen_len (idx : Nat → Nat) (n k : Nat) : (seenL idx n k).length = n := by simp [seenL]
theorem seen_at (idx : Nat → Nat) (n k : Nat) (h : ∀ j, j < k → idx j ≠ idx k) (hi : idx k < n) : (seenL idx n k)[idx k]? = some (.bool false) := by
  unfold seenL
  rw [List.getElem?_map, List.getElem?_range hi]
  simp only [Option.map_some]
  congr 2
  rw [List.any_eq_false]
  intro j hj
  simp only [List.mem_range] at hj
  simpa using h j hj
theorem seen_set (idx : Nat → Nat) (n k : Nat) : (seenL idx n k).set (idx k) (.bool true) = seenL idx n (k + 1) := by
  apply List.ext_getElem?
  intro i
  rw [List.getElem?_set]
  unfold seenL
  rw [List.length_map, List.length_range]
  rcases Nat.lt_or_ge i n with hi | hi
  · rw [List.getElem?_map, List.getElem?_map, List.getElem?_range hi]
    simp only [Option.map_some]
    by_cases h : idx k = i
    · rw [if_pos h, if_pos (by omega)]
      simp [List.range_succ, h]
    · rw [if_neg h]
      simp [List.range_succ, h]
  · rw [List.getElem?_eq_none (by simp; omega), List.getElem?_eq_none (by simp; omega)]
    by_cases h : idx k = i
    · rw [if_pos h, if_neg (by omega)]
    · rw [if_neg h]
set_option maxRecDepth 100000 in
set_option maxHeartbeats 6400000 in
theorem sorted15 (w : World) (na : Option Addr) (n nc : Nat) (ps : List ByteArray) (ba : Option Addr) (nb' bc : Nat) (bs : List Bool) (ka : Option Addr) (kc : Nat) (va : Option Addr) (vc : Nat) (P : List (ByteArray × ByteArray)) (idx : Nat → Nat)
    (hl : ps.length = n) (hn : n ≤ 4096) (hbl : bs.length = nb') (hbn : nb' ≤ 4096) (hr : Rd w w.heap.size na (ps.map Value.string)) (hb : Rd w w.heap.size ba (bs.map Value.bool))
    (hk : Rd w w.heap.size ka (P.map fun p => .string p.1)) (hv : Rd w w.heap.size va (P.map fun p => .string p.2)) (hg : GSok ps bs P idx) :
    Calls Tryf.prog 15 #[.slice na n nc, .slice ba nb' bc, .slice ka n kc, .slice va n vc] w fun e w' => e = .returned (.bool true) ∧ Below w.heap.size w w' := by
  obtain ⟨i0, hi, hz0, hz1, hz2⟩ := info_partsC inf4
  have hmk : ∀ W, (Instr.makeSlice 23 (.int .i64 n) (.int .i64 n)).run Tryf.prog W = .ok (.slice (some ⟨W.heap.size, 0, none⟩) n n) (W.alloc (.cells (madeCells (Value.cells (.bool false)) (n * i0.size)) 4)) := fun W => run_make_n (P := Tryf.prog) 23 4 i0 _ Tryf.underlying23 hi hz0 .i64 .i64 n n (Nat.le_refl _) (by rw [hz2]; omega) (by omega) W
  rw [hz1, Nat.mul_one] at hmk
  generalize hZ : madeCells (Value.cells (.bool false)) n = Z at hmk
  have HZ := Lib.hid (show Z = (seenL idx n 0).toArray by
    rw [← hZ]
    apply Array.ext_getElem?
    intro j
    rcases Nat.lt_or_ge j n with h | h
    · simp [madeCells, Value.cells, seenL, h, Nat.mod_one]
    · simp [madeCells, Value.cells, seenL, h])
  have K27 := Lib.hid (groups27 w ba nb' bc n bs hbl hbn hn hb)
  have HL := Lib.hid hl
  have HR := Lib.hid hr
  have HK := Lib.hid hk
  have HV := Lib.hid hv
  have HG := Lib.hid hg
  clear hZ hl hbl hr hb hk hv hg hi hz0 hz1 hz2
  go_enter Tryf.func15, Tryf.ntmps15
  go_wp2_with fail
  refine K27.out.mono ?_
  rintro e w1 ⟨g, rfl, hge, hblk, hbel⟩
  have HGB := Lib.hid hblk
  have HB1 := Lib.hid hbel
  have HGL := Lib.hid hblk.lt
  clear hblk hbel K27
  go_wp2_with fail
  go_loopw [12] (fun i wr => ∃ k : Nat, k ≤ n ∧ i = .int .i64 (k : Int) ∧ Hid (Blk wr w1.heap.size 4 (seenL idx n k).toArray) ∧ Hid (Below w1.heap.size w1 wr)) (fun i _ => n - (intOf i).toNat)
  case atStart => exact ⟨0, Nat.zero_le _, rfl, Lib.hid (by rw [← HZ.out]; exact Blk.new _ _ _), Lib.hid ((Below.refl _ _).alloc (Nat.le_refl _) _)⟩
  case round =>
    obtain ⟨k, hk, rfl, hsn, hbel⟩ := hrel
    have hbw := HB1.out.trans (hbel.out.mono HB1.out.size)
    by_cases hlt : k < n
    · have hkp : k < ps.length := by rw [HL.out]; exact hlt
      obtain ⟨p, hp⟩ : ∃ p, P[k]? = some p := ⟨P[k]'(by rw [HG.out.len]; exact hkp), by simp⟩
      have hid := HG.out.lt k hkp
      rw [HL.out] at hid
      obtain ⟨vb, voff, rfl, hvb, hvc⟩ := HV.out.pos (by simp [HG.out.len, HL.out]; omega)
      obtain ⟨kb, koff, rfl, hkb, hkc⟩ := HK.out.pos (by simp [HG.out.len, HL.out]; omega)
      obtain ⟨pb, poff, rfl, hpb, hpc⟩ := HR.out.pos (by simp [HL.out]; omega)
      have hvar := HG.out.var k p hp
      have hgk := HG.out.grp k hkp
      have c1 : wr.cell? ⟨vb, voff + k, none⟩ = some (.string (varN (idx k))) := (hbw.cell (p := ⟨vb, voff + k, none⟩) hvb).trans (hvc k _ (by rw [List.getElem?_map, hp, ← hvar]; rfl))
      have c2 : wr.cell? ⟨kb, koff + k, none⟩ = some (.string p.1) := (hbw.cell (p := ⟨kb, koff + k, none⟩) hkb).trans (hkc k _ (by rw [List.getElem?_map, hp]; rfl))
      have c3 : wr.cell? ⟨pb, poff + idx k, none⟩ = some (.string p.1) := (hbw.cell (p := ⟨pb, poff + idx k, none⟩) hpb).trans (hpc (idx k) _ (by rw [List.getElem?_map, HG.out.key k p hp]; rfl))
      have s0 : wr.cell? ⟨w1.heap.size, idx k, none⟩ = some (.bool false) := (hsn.out.cell _).trans (by rw [List.getElem?_toArray]; exact seen_at idx n k (fun j hj => HG.out.inj j k hj hkp) hid)
      have sf := hsn.out.free (idx k)
      have sl := hsn.out.lt
      have K28 := Lib.hid (vixV wr (idx k) (by omega))
      have g1 : wr.cell? ⟨g, idx k, none⟩ = some (.int .i64 (grpN bs k)) := (hbel.out.cell (p := ⟨g, idx k, none⟩) HGL.out).trans ((HGB.out.cell _).trans (by rw [← hgk]; simp [grpL, hid]))
      have g2 : wr.cell? ⟨g, k, none⟩ = some (.int .i64 (grpN bs k)) := (hbel.out.cell (p := ⟨g, k, none⟩) HGL.out).trans ((HGB.out.cell _).trans (by simp [grpL, hlt]))
      have HSET := Lib.hid (show Blk (wr.setCell ⟨w1.heap.size, idx k, none⟩ (.bool true)) w1.heap.size 4 (seenL idx n (k + 1)).toArray by
        have := hsn.out.set (idx k) (.bool true)
        rwa [List.setIfInBounds_toArray, seen_set] at this)
      have HBEL := Lib.hid (hbel.out.setCell (p := ⟨w1.heap.size, idx k, none⟩) (Nat.le_refl _) (.bool true))
      have hgne : g ≠ w1.heap.size := by have := HGL.out; omega
      have hkne : kb ≠ w1.heap.size := by have := HB1.out.size; omega
      have hpne : pb ≠ w1.heap.size := by have := HB1.out.size; omega
      have g1' := cell_far (p := ⟨w1.heap.size, idx k, none⟩) (u := .bool true) hgne g1
      have g2' := cell_far (p := ⟨w1.heap.size, idx k, none⟩) (u := .bool true) hgne g2
      have c2' := cell_far (p := ⟨w1.heap.size, idx k, none⟩) (u := .bool true) hkne c2
      have c3' := cell_far (p := ⟨w1.heap.size, idx k, none⟩) (u := .bool true) hpne c3
      have gl' : g < wr.heap.size := Nat.lt_of_lt_of_le HGL.out hbel.out.size
      have kl' : kb < wr.heap.size := Nat.lt_of_lt_of_le hkb hbw.size
      have pl' : pb < wr.heap.size := Nat.lt_of_lt_of_le hpb hbw.size
      have HP := Lib.hid hp
      have HKC := Lib.hid hkc
      have HBW := Lib.hid hbw
      have HBE := Lib.hid hbel.out
      clear hvc hkc hpc hvar hp hbel hbw g1 g2 c2 c3 hsn hgk hmk
      generalize hq : idx k = q at *
      go_wp2_with fail
      refine K28.out.mono ?_
      rintro e w3 ⟨rfl, rfl⟩
      go_wp2_with fail
      clear c1 s0 sf K28
      generalize wr.setCell ⟨w1.heap.size, q, none⟩ (.bool true) = W at *
      go_quiet (fail)
      go_wp2_with fail
      go_quiet (fail)
      go_wp2_with fail
      rcases Nat.eq_zero_or_pos k with rfl | hkp0
      · rw [Nat.add_zero] at c2'
        go_quiet (fail)
        go_wp2_with fail
        go_roundw
        case measure => simp [intOf]; omega
        case rel => exact ⟨0 + 1, by omega, by go_num, Lib.hid HSET.out, Lib.hid ⟨HBEL.out.os, HBEL.out.tape, HBEL.out.output, HBEL.out.size, HBEL.out.block⟩⟩
      · obtain ⟨j, rfl⟩ : ∃ j, k = j + 1 := ⟨k - 1, by omega⟩
        have hj : (((j + 1 : Nat) : Int) - 1) = (j : Int) := by omega
        obtain ⟨p0, hp0⟩ : ∃ p0, P[j]? = some p0 := ⟨P[j]'(by rw [HG.out.len]; omega), by simp⟩
        have e1 : W.cell? ⟨g, j, none⟩ = some (.int .i64 (grpN bs j)) := ((HBEL.out.cell (p := ⟨g, j, none⟩) HGL.out).trans ((HGB.out.cell _).trans (by simp [grpL, show j < n by omega])))
        have e2 : W.cell? ⟨kb, koff + j, none⟩ = some (.string p0.1) := ((HB1.out.trans (HBEL.out.mono HB1.out.size)).cell (p := ⟨kb, koff + j, none⟩) hkb).trans (HKC.out j _ (by rw [List.getElem?_map, hp0]; rfl))
        have HSRT := Lib.hid (HG.out.srt j p0 p hp0 HP.out)
        clear hp0 HKC
        generalize grpN bs (j + 1) = ga at *
        generalize grpN bs j = gb at *
        generalize p.1 = S1 at *
        generalize p0.1 = S0 at *
        by_cases hgg : ga = gb
        · have hs := HSRT.out hgg
          subst hgg
          by_cases hss : S0 = S1
          · subst hss
            go_quiet (fail)
            go_wp2_with fail
            go_roundw
            case measure => simp [intOf]; omega
            case rel => exact ⟨j + 1 + 1, by omega, by go_num, Lib.hid HSET.out, Lib.hid ⟨HBEL.out.os, HBEL.out.tape, HBEL.out.output, HBEL.out.size, HBEL.out.block⟩⟩
          · have hl : Op.bytesLess S0.toList S1.toList = true := by
              cases h : ltS S0 S1
              · exact absurd (ltS_tri h hs) hss
              · exact h
            go_quiet (fail)
            go_wp2_with fail
            go_roundw
            case measure => simp [intOf]; omega
            case rel => exact ⟨j + 1 + 1, by omega, by go_num, Lib.hid HSET.out, Lib.hid ⟨HBEL.out.os, HBEL.out.tape, HBEL.out.output, HBEL.out.size, HBEL.out.block⟩⟩
        · have hgi : ((ga : Int) == (gb : Int)) = false := by rw [beq_eq_false_iff_ne]; omega
          go_quiet (fail)
          go_wp2_with fail
          go_roundw
          case measure => simp [intOf]; omega
          case rel => exact ⟨j + 1 + 1, by omega, by go_num, Lib.hid HSET.out, Lib.hid ⟨HBEL.out.os, HBEL.out.tape, HBEL.out.output, HBEL.out.size, HBEL.out.block⟩⟩
    · go_wp2_with fail
      go_ret
      exact ⟨rfl, hbw⟩
end Go.Proofs.YtljfgplccnaboaaFmt
