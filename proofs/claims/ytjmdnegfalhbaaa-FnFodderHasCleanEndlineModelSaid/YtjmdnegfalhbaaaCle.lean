/- The walk of FnFodderHasCleanEndlineModel. -/
import Derived.Test.YtjmdnegfalhbaaaArgs
import Derived.Test.YtjmdnegfalhbaaaFill
namespace Go.Proofs.Ytjmdnegfalhbaaa
open Go.RowKit
set_option linter.unusedVariables false

theorem Try.info31 : (Try.prog.info? 31).map (fun i => (i.zero, i.size, i.bytes)) = some (some (.agg #[.slice none 0 0, .int .i64 0, .int .i64 0, .int .i64 0]), 4, 48) := by kernel_rfl

/-- Block g is a row of fodder elements whose kinds are, up to k, the numbers zs. -/
def Kinds (w : World) (g len : Nat) (zs : List Int) (k : Nat) : Prop :=
  ∃ cs : Array Value, Blk w g 31 cs ∧ cs.size = len * 4 ∧ ∀ i z, i < k → zs[i]? = some z → cs[i * 4 + 1]? = some (.int .i64 z)

theorem Kinds.at {w : World} {g len : Nat} {zs : List Int} {k : Nat} (h : Kinds w g len zs k) (i : Nat) (hi : i < len) : ∃ v, w.cell? ⟨g, i * 4 + 1, none⟩ = some v ∧ w.frozen? ⟨g, i * 4 + 1, none⟩ = false := by
  obtain ⟨cs, hb, hs, _⟩ := h
  refine ⟨cs[i * 4 + 1]'(by omega), ?_, hb.free _⟩
  rw [hb.cell]
  simp
theorem Kinds.set {w : World} {g len : Nat} {zs : List Int} {k : Nat} (h : Kinds w g len zs k) (hk : k < len) (z : Int) (hz : zs[k]? = some z) : Kinds (w.setCell ⟨g, k * 4 + 1, none⟩ (.int .i64 z)) g len zs (k + 1) := by
  obtain ⟨cs, hb, hs, hc⟩ := h
  refine ⟨_, hb.set _ _, by simpa using hs, fun i z' hi hz' => ?_⟩
  rw [Array.getElem?_setIfInBounds]
  by_cases hik : k = i
  · subst hik
    rw [if_pos rfl, if_pos (by omega)]
    rw [hz] at hz'
    rw [Option.some.inj hz']
  · rw [if_neg (by omega)]
    exact hc i z' (by omega) hz'

set_option maxHeartbeats 800000 in
theorem build_some (w : World) (x : Addr) (len cap : Nat) (zs : List Int) (h : IsInts w (some x) len cap zs) (hle : len ≤ 131072) :
    Calls Try.prog 5 #[.slice (some x) len cap] w fun e w' => e = .returned (.slice (some ⟨w.heap.size, 0, none⟩) len len) ∧ Kinds w' w.heap.size len zs len ∧ Below w.heap.size w w' := by
  obtain ⟨hl, hlc, hcm, hn, hs, hr⟩ := h
  unfold maxLen at hcm
  clear hs hn
  obtain ⟨i0, hi, hz0, hz1, hz2⟩ := info_parts Try.info31
  have hmk := fun W => run_make_n (P := Try.prog) 25 31 i0 _ Try.underlying25 hi hz0 .i64 .i64 len len (Nat.le_refl _) (by rw [hz2]; omega) (by omega) W
  rw [hz1] at hmk
  generalize hZ : madeCells (Value.agg #[.slice none 0 0, .int .i64 0, .int .i64 0, .int .i64 0]).cells (len * 4) = Z at hmk
  have hZl : Z.size = len * 4 := by rw [← hZ]; simp [size_madeCells]
  have HL := Lib.hid hl
  have HZ := Lib.hid hZl
  clear hZ hZl hi hz0 hz1 hz2 hl
  have hnil := fun (W : World) (A : Option Addr) => Lib.run_eql_slice_nil (P := Try.prog) W 22 3 A len cap 0 0 Try.underlying22
  go_enter Try.func5, Try.ntmps5
  go_wp2
  go_loopw [4] (fun i wr => ∃ k : Nat, k ≤ len ∧ i = .int .i64 k ∧ Kinds wr w.heap.size len zs k ∧ Below w.heap.size w wr) (fun i _ => len - (intOf i).toNat)
  case atStart => exact ⟨0, Nat.zero_le _, rfl, ⟨Z, Blk.new _ _ _, HZ.out, fun i z hi => absurd hi (by omega)⟩, (Below.refl _ _).alloc (Nat.le_refl _) _⟩
  case round =>
    obtain ⟨k, hk, rfl, hkin, hbel⟩ := hrel
    by_cases hlt : k < len
    · obtain ⟨b, off, hx, hb, hc⟩ := (hr.below hbel).pos (by simp [HL.out]; omega)
      obtain rfl := Option.some.inj hx
      obtain ⟨z, hz⟩ : ∃ z, zs[k]? = some z := ⟨zs[k]'(by rw [HL.out]; omega), by simp⟩
      have hcell := hc k (.int .i64 z) (by simp [hz])
      obtain ⟨v, hv, hfz⟩ := hkin.at k hlt
      have HK := Lib.hid (hkin.set hlt z hz)
      clear hc hr hkin hz
      go_wp2
      go_roundw
      case rel => exact ⟨k + 1, by omega, by go_num, HK.out, hbel.setCell (Nat.le_refl _) _⟩
      case measure => simp [intOf]; omega
    · have hkl : k = len := by omega
      have HKL := Lib.hid hkl
      clear hkl
      go_wp2
      go_ret
      exact ⟨rfl, by rw [HKL.out] at hkin; exact hkin, hbel⟩

theorem build_none (w : World) : Calls Try.prog 5 #[.slice none 0 0] w fun e w' => e = .returned (.slice none 0 0) ∧ w = w' := by
  have hnil := fun (W : World) (A : Option Addr) => Lib.run_eql_slice_nil (P := Try.prog) W 22 3 A 0 0 0 0 Try.underlying22
  go_enter Try.func5, Try.ntmps5
  go_wp2
  go_ret
  exact ⟨rfl, rfl⟩

theorem clean_none (w : World) (a : Option Addr) (cap : Nat) : Calls Try.prog 6 #[.slice a 0 cap] w fun e w' => e = .returned (.bool false) ∧ w = w' := by
  go_enter Try.func6, Try.ntmps6
  go_wp2
  go_ret
  exact ⟨rfl, rfl⟩

theorem clean_some (w : World) (g len cap : Nat) (z : Int) (hp : 0 < len) (hle : len ≤ 131072) (hc : w.cell? ⟨g, (len - 1) * 4 + 1, none⟩ = some (.int .i64 z)) :
    Calls Try.prog 6 #[.slice (some ⟨g, 0, none⟩) len cap] w fun e w' => e = .returned (.bool (z != 1)) ∧ w = w' := by
  go_enter Try.func6, Try.ntmps6
  go_wp2
  go_ret
  exact ⟨rfl, rfl⟩

/-- What the scan holds behind k elements. -/
def lastB (zs : List Int) (k : Nat) : Bool := if k = 0 then false else (zs.getD (k - 1) 0 != 1)

set_option maxHeartbeats 1600000 in
theorem law_some (w : World) (x : Addr) (len cap : Nat) (zs : List Int) (h : IsInts w (some x) len cap zs) :
    Calls Try.prog 3 #[.slice (some x) len cap] w fun e w' => e = .returned (.bool true) ∧ Below w.heap.size w w' := by
  have h' := h
  obtain ⟨hl, hlc, hcm, hn, hs, hr⟩ := h'
  unfold maxLen at hcm
  have HL := Lib.hid hl
  have H := Lib.hid h
  have HR := Lib.hid hr
  clear hl hs hr h
  by_cases h0 : 1048576 < len
  · go_enter Try.func3, Try.ntmps3
    go_wp2_with (first | (go_at_call 4; go_in) | fail)
    go_ret
    exact ⟨rfl, Below.refl _ _⟩
  by_cases h1 : 131072 < len
  · go_enter Try.func3, Try.ntmps3
    go_wp2_with (first | (go_at_call 4; go_in) | fail)
    go_ret
    exact ⟨rfl, Below.refl _ _⟩
  go_enter Try.func3, Try.ntmps3
  go_wp2_with (first | (go_at_call 4; go_in) | fail)
  refine (build_some _ _ _ _ zs H.out (by omega)).mono ?_
  rintro e w1 ⟨rfl, hkin, hbel⟩
  have HK := Lib.hid hkin
  have HR1 := Lib.hid (HR.out.below hbel)
  clear hkin
  go_wp2_with fail
  go_loop [4, 5] (fun l i => ∃ k : Nat, k ≤ len ∧ i = .int .i64 k ∧ l = .bool (lastB zs k)) (fun _ i => len - (intOf i).toNat)
  case atStart => exact ⟨0, Nat.zero_le _, rfl, rfl⟩
  case round =>
    obtain ⟨k, hk, rfl, rfl⟩ := hrel
    by_cases hlt : k < len
    · obtain ⟨b, off, hx, hb, hc⟩ := HR1.out.pos (by simp [HL.out]; omega)
      obtain rfl := Option.some.inj hx
      obtain ⟨z, hz⟩ : ∃ z, zs[k]? = some z := ⟨zs[k]'(by rw [HL.out]; omega), by simp⟩
      have hcell := hc k (.int .i64 z) (by simp [hz])
      have E : Hid ((z != 1) = lastB zs (k + 1)) := by simp [Hid, lastB, hz]
      clear hc hz
      go_wp2
      go_round
      case rel => exact ⟨k + 1, by omega, by go_num, by rw [← E.out]⟩
      case measure => simp [intOf]; omega
    · have hkl : k = len := by omega
      have HKL := Lib.hid hkl
      clear hkl
      go_wp2_with fail
      by_cases hp : 0 < len
      · obtain ⟨z, hz⟩ : ∃ z, zs[len - 1]? = some z := ⟨zs[len - 1]'(by rw [HL.out]; omega), by simp⟩
        have hc : w1.cell? ⟨w.heap.size, (len - 1) * 4 + 1, none⟩ = some (.int .i64 z) := by
          obtain ⟨cs, hb, hs, hcs⟩ := HK.out
          rw [hb.cell]
          exact hcs _ _ (by omega) hz
        have E : Hid ((z != 1) = lastB zs k) := by
          unfold Hid lastB
          rw [HKL.out, if_neg (by omega)]
          simp [hz]
        clear hz
        refine (clean_some _ _ _ _ z hp (by omega) hc).mono ?_
        rintro e w2 ⟨rfl, rfl⟩
        go_wp2_with fail
        go_ret
        exact ⟨by rw [E.out]; simp, hbel⟩
      · have e0 : len = 0 := by omega
        subst e0
        refine (clean_none _ _ _).mono ?_
        rintro e w2 ⟨rfl, rfl⟩
        have E : Hid (lastB zs k = false) := by
          unfold Hid lastB
          rw [HKL.out, if_pos rfl]
        rw [E.out]
        go_wp2_with fail
        go_ret
        exact ⟨rfl, hbel⟩

theorem law_none (w : World) : Calls Try.prog 3 #[.slice none 0 0] w fun e w' => e = .returned (.bool true) ∧ Below w.heap.size w w' := by
  go_enter Try.func3, Try.ntmps3
  go_wp2_with (first | (go_at_call 4; go_in) | fail)
  refine (build_none _).mono ?_
  rintro e w1 ⟨rfl, rfl⟩
  go_wp2_with fail
  refine wp_loop_rounds 1 ?_
  rw [rounds_succ]
  go_wp2_with fail
  refine (clean_none _ _ _).mono ?_
  rintro e w2 ⟨rfl, rfl⟩
  go_wp2_with fail
  go_ret
  exact ⟨rfl, Below.refl _ _⟩

theorem law_any (w : World) (a : Option Addr) (len cap : Nat) (zs : List Int) (h : IsInts w a len cap zs) :
    Calls Try.prog 3 #[.slice a len cap] w fun e w' => e = .returned (.bool true) ∧ Below w.heap.size w w' := by
  cases a with
  | none =>
    have hc := h.2.2.2.1 rfl
    have hl := h.2.1
    obtain rfl : cap = 0 := hc
    obtain rfl : len = 0 := by omega
    exact law_none w
  | some x => exact law_some w x len cap zs h
end Go.Proofs.Ytjmdnegfalhbaaa
