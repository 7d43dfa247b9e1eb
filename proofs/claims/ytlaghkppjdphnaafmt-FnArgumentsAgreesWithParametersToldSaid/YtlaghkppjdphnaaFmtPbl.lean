/- zzBuildParams; the size guards over a list of lists. -/
import Derived.Test.YtlaghkppjdphnaaFmtPrf
namespace Go.Proofs.YtlaghkppjdphnaaFmt
open Go.RowKit
set_option linter.unusedVariables false

theorem infP : (Tryf.prog.info? 69).map (fun i => (i.zero, i.size, i.bytes)) = some (some (.agg #[.slice none 0 0, .string ⟨#[]⟩, .slice none 0 0, .slice none 0 0, .nilIface, .pointer none, .string ⟨#[]⟩, .int .i64 0, .int .i64 0, .int .i64 0, .int .i64 0]), 11, 160) := by kernel_rfl
theorem zeroP : (Value.agg #[.slice none 0 0, .string ⟨#[]⟩, .slice none 0 0, .slice none 0 0, .nilIface, .pointer none, .string ⟨#[]⟩, .int .i64 0, .int .i64 0, .int .i64 0, .int .i64 0]).cells = (pcs (.slice none 0 0)).toArray := by
  simp [Value.cells, pcs]
theorem made_flat {α : Type} (f : α → List Value) (s : Nat) (hs : ∀ a, (f a).length = s) (hp : 0 < s) (x : α) (n : Nat) : madeCells (f x).toArray (n * s) = ((List.replicate n x).flatMap f).toArray := by
  apply Array.ext_getElem?
  intro j
  rcases Nat.lt_or_ge j (n * s) with hj | hj
  · have hL : (madeCells (f x).toArray (n * s))[j]? = some ((f x).toArray[j % s]!) := by
      simp [madeCells, hj, hs]
    have hd : j / s < n := (Nat.div_lt_iff_lt_mul hp).2 hj
    have e : j / s * s + j % s = j := by rw [Nat.mul_comm]; exact Nat.div_add_mod j s
    have hm := Nat.mod_lt j hp
    have hR := flat_at f s hs (List.replicate n x) (j / s) (j % s) x (by rw [List.getElem?_replicate, if_pos hd]) hm
    rw [e] at hR
    rw [hL, List.getElem?_toArray, hR]
    have h2 : j % s < (f x).length := by rw [hs]; exact hm
    simp [h2]
  · rw [Array.getElem?_eq_none (by rw [size_madeCells]; omega), Array.getElem?_eq_none (by rw [List.size_toArray, flat_len f s hs, List.length_replicate]; omega)]

def MadeP (w : World) (n : Nat) (ss : List QS) (e : Ending) (w' : World) : Prop :=
  ∃ vs, e = .returned (.slice (some ⟨w.heap.size, 0, none⟩) n n) ∧ Blk w' w.heap.size 69 (cellsP vs).toArray ∧ vs.length = n ∧ (∀ (i : Nat) (v : Value) (s : QS), vs[i]? = some v → ss[i]? = some s → FodC w' (fun b => w.heap.size < b ∧ b < w'.heap.size) v (inQ s.a s.zs)) ∧ Below w.heap.size w w'

set_option maxRecDepth 100000 in
set_option maxHeartbeats 3200000 in
theorem bprm23 (w : World) (a : Option Addr) (n cp : Nat) (ss : List QS) (h : IsQss w a n cp ss) (hn : n ≤ 16384) (hln : ∀ s ∈ ss, s.l ≤ 16384) (hok : ∀ s ∈ ss, ∀ z ∈ s.zs, OkQ z) : Calls Tryf.prog 23 #[.slice a n cp] w (MadeP w n ss) := by
  have H := Lib.hid h
  have HL := Lib.hid hln
  have HK := Lib.hid hok
  obtain ⟨i0, hi, hz0, hz1, hz2⟩ := info_parts infP
  have hmk := fun W => run_make_n (P := Tryf.prog) 62 69 i0 _ Tryf.underlying62 hi hz0 .i64 .i64 n n (Nat.le_refl _) (by rw [hz2]; omega) (by omega) W
  rw [hz1, zeroP, made_flat pcs 11 (fun _ => rfl) (by decide)] at hmk
  have e0 : (List.replicate n (Value.slice none 0 0)).flatMap pcs = cellsP (List.replicate n (.slice none 0 0)) := rfl
  rw [e0] at hmk
  clear h hln hok hi hz0 hz1 hz2 e0
  unfold MadeP
  go_enter Tryf.func23, Tryf.ntmps23
  go_wp2_with fail
  go_loopw [4] (fun i wr => ∃ k : Nat, k ≤ n ∧ i = .int .i64 k ∧ Hid (∃ vs, Blk wr w.heap.size 69 (cellsP vs).toArray ∧ vs.length = n ∧ (∀ (i : Nat) (v : Value) (s : QS), i < k → vs[i]? = some v → ss[i]? = some s → FodC wr (fun b => w.heap.size < b ∧ b < wr.heap.size) v (inQ s.a s.zs))) ∧ Hid (Below w.heap.size w wr)) (fun i _ => n - (intOf i).toNat)
  case atStart => exact ⟨0, Nat.zero_le _, rfl, Lib.hid ⟨_, Blk.new _ _ _, by simp, fun i v s h => absurd h (Nat.not_lt_zero _)⟩, Lib.hid ((Below.refl _ _).alloc (Nat.le_refl _) _)⟩
  case round =>
    obtain ⟨k, hk, rfl, hvs, hbel⟩ := hrel
    obtain ⟨vs, hb, hvl, hfs⟩ := hvs.out
    have HB := Lib.hid hb
    have HFS := Lib.hid hfs
    by_cases hlt : k < n
    · obtain ⟨s, hs⟩ : ∃ s, ss[k]? = some s := ⟨ss[k]'(by rw [H.out.1]; exact hlt), by simp⟩
      obtain ⟨v, hv⟩ : ∃ v, vs[k]? = some v := ⟨vs[k]'(by rw [hvl]; exact hlt), by simp⟩
      obtain ⟨b, off, ha, hbb, x0⟩ := IsQss.at (H.out.2.2.2.2.2.below hbel.out) hs
      subst ha
      have hm := List.mem_of_getElem? hs
      have KB := Lib.hid (build12 _ s.a s.l s.c s.zs ((H.out.2.2.2.2.1 s hm).below hbel.out) (HL.out s hm) (HK.out s hm))
      have HS := Lib.hid hs
      have HV := Lib.hid hv
      have hbw : b < wr.heap.size := Nat.lt_of_lt_of_le hbb hbel.out.size
      have gl := hb.lt
      clear hs hv hb hfs hmk hvs
      go_wp2_with fail
      refine KB.out.mono ?_
      rintro e w2 ⟨u, rfl, hu, hb2⟩
      obtain ⟨ux, rfl, _, _, _⟩ := hu.open
      have HB2 : Hid (Blk w2 w.heap.size 69 (cellsP vs).toArray) := Lib.hid ((hb2.block _ gl).trans HB.out)
      have g0 := pcell HB2.out HV.out (j := 0) (by omega)
      have gf := HB2.out.free (k * 11)
      have gl2 := HB2.out.lt
      simp [pcs] at g0
      have hs2 := hb2.size
      have HST := Lib.hid (HB2.out.pset HV.out (.slice ux ((inQ s.a s.zs).getD []).length ((inQ s.a s.zs).getD []).length) (HB2.out.set (k * 11) _))
      have FR := Lib.hid ((Fr.of_below hb2 (fun b => b = w.heap.size)).setCell ⟨w.heap.size, k * 11, none⟩ (.slice ux ((inQ s.a s.zs).getD []).length ((inQ s.a s.zs).getD []).length) (.inl rfl))
      have BN := Lib.hid ((hbel.out.trans (hb2.mono hbel.out.size)).setCell (p := ⟨w.heap.size, k * 11, none⟩) (Nat.le_refl _) (.slice ux ((inQ s.a s.zs).getD []).length ((inQ s.a s.zs).getD []).length))
      have HU : Hid (FodC (w2.setCell ⟨w.heap.size, k * 11, none⟩ (.slice ux ((inQ s.a s.zs).getD []).length ((inQ s.a s.zs).getD []).length)) (fun b => w.heap.size < b ∧ b < w2.heap.size) (.slice ux ((inQ s.a s.zs).getD []).length ((inQ s.a s.zs).getD []).length) (inQ s.a s.zs)) := Lib.hid ((hu.keep (Agree.setCell _ w2 _ _ fun h => by have h9 : wr.heap.size ≤ w.heap.size := h.1; omega)).sub fun b h => ⟨by have := h.1; omega, h.2⟩)
      have hss : (w2.setCell ⟨w.heap.size, k * 11, none⟩ (.slice ux ((inQ s.a s.zs).getD []).length ((inQ s.a s.zs).getD []).length)).heap.size = w2.heap.size := by simp
      clear hu hb2 KB
      generalize ((inQ s.a s.zs).getD []).length = ul at *
      go_wp2_with fail
      go_roundw
      case rel =>
        refine ⟨k + 1, by omega, by go_num, Lib.hid ⟨_, HST.out, by simp [hvl], fun i v' s' hi h1 h2 => ?_⟩, BN⟩
        rw [hss]
        rcases Nat.lt_or_ge i k with h | h
        · rw [List.getElem?_set_ne (by omega)] at h1
          refine ((HFS.out i v' s' h h1 h2).keep (FR.out.agree fun b hb => ⟨hb.2, fun e => by have := hb.1; omega⟩)).sub fun b hb => ⟨hb.1, Nat.lt_of_lt_of_le hb.2 hs2⟩
        · obtain rfl : i = k := by omega
          rw [List.getElem?_set_self (by rw [hvl]; exact hlt)] at h1
          obtain rfl := Option.some.inj h1
          rw [HS.out] at h2
          obtain rfl := Option.some.inj h2
          exact HU.out
      case measure => simp [intOf]; omega
    · obtain rfl : k = n := by omega
      go_wp2_with fail
      go_ret
      exact ⟨vs, rfl, HB.out, hvl, fun i v s h1 h2 => HFS.out i v s (by rw [← hvl]; exact (List.getElem?_eq_some_iff.1 h1).1) h1 h2, hbel.out⟩
end Go.Proofs.YtlaghkppjdphnaaFmt
