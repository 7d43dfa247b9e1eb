/- zzKind, zzMakeFodder, zzCloneFodder. -/
import Derived.Test.YtginajepkfndoaaFod
import Derived.Test.YtginajepkfndoaaArgs
import Derived.OwnWalk
namespace Go.Proofs.Ytginajepkfndoaa
open Go.RowKit
set_option linter.unusedVariables false

def remI (x : Int) : Int := (x.tmod 3 + 3) % 3
def kindI (x : Int) : Int := if remI x = 0 then 0 else if remI x = 1 then 1 else 2

theorem kind_any (w : World) (x : Int) : Calls Try.prog 25 #[.int .i64 x] w fun e w' => e = .returned (.int .i64 (kindI x)) ∧ w = w' := by
  have b1 := Int.tmod_lt_of_pos x (show (0 : Int) < 3 by decide)
  have b2 := Int.lt_tmod_of_pos x (show (0 : Int) < 3 by decide)
  by_cases h0 : remI x = 0
  · have E : Hid (kindI x = 0) := by simp [Hid, kindI, h0]
    have t0 : ((x.tmod 3 + 3) % 3 == 0) = true := by simpa [remI] using h0
    clear h0
    go_enter Try.func25, Try.ntmps25
    go_wp2
    go_ret
    exact ⟨by rw [E.out]; rfl, rfl⟩
  · have t0 : ((x.tmod 3 + 3) % 3 == 0) = false := by simpa [remI] using h0
    by_cases h1 : remI x = 1
    · have E : Hid (kindI x = 1) := by simp [Hid, kindI, h1]
      have t1 : ((x.tmod 3 + 3) % 3 == 1) = true := by simpa [remI] using h1
      clear h0 h1
      go_enter Try.func25, Try.ntmps25
      go_wp2
      go_ret
      exact ⟨by rw [E.out]; rfl, rfl⟩
    · have E : Hid (kindI x = 2) := by simp [Hid, kindI, h0, h1]
      have t1 : ((x.tmod 3 + 3) % 3 == 1) = false := by simpa [remI] using h1
      clear h0 h1
      go_enter Try.func25, Try.ntmps25
      go_wp2
      go_ret
      exact ⟨by rw [E.out]; rfl, rfl⟩

/-- The element that zzMakeFodder makes at place i. -/
def mkEl (ks bs : List Int) (i : Nat) : El := ⟨.slice none 0 0, kindI (ks.getD i 0), bs.getD i 0, 0⟩
def mkEls (ks bs : List Int) (k : Nat) : List El := (List.range k).map (mkEl ks bs)
theorem mkEls_succ (ks bs : List Int) (k : Nat) : mkEls ks bs (k + 1) = mkEls ks bs k ++ [mkEl ks bs k] := by simp [mkEls, List.range_succ]
theorem mkEls_len (ks bs : List Int) (k : Nat) : (mkEls ks bs k).length = k := by simp [mkEls]

theorem Try.inf61 : (Try.prog.info? 61).map (fun i => (i.zero, i.size, i.bytes)) = some (some (.agg #[.slice none 0 0, .int .i64 0, .int .i64 0, .int .i64 0]), 4, 48) := by kernel_rfl

theorem own_blk {w : World} {base e size g n : Nat} {xs : List Value} (h : w.ownsRow base e size (.slice (some ⟨g, 0, none⟩) n n) n xs) : Blk w g e xs.toArray := by
  obtain ⟨hl, h⟩ := h
  rcases h with ⟨h, _⟩ | ⟨g', cap, cur, hv, hb, hh, h1, h2, h3, h4⟩
  · cases h
  · injection hv with hv hn hc
    obtain rfl : cap = n := hc.symm
    injection hv with hv
    obtain rfl : g' = g := by injection hv with hv; exact hv.symm
    unfold Blk
    rw [hh]
    congr 2
    rw [List.take_of_length_le (by simp [h3])] at h4
    rw [← h4]

theorem own_made {w : World} {e size n : Nat} {Z : Array Value} (hz : Z.size = n * size) (hn : n ≤ 65536) : (w.alloc (.cells Z e)).ownsRow w.heap.size e size (.slice (some ⟨w.heap.size, 0, none⟩) 0 n) 0 [] :=
  ⟨by simp, .inr ⟨w.heap.size, n, Z, rfl, Nat.le_refl _, Blk.new w e Z, Nat.zero_le _, by unfold maxLen; omega, hz, by simp⟩⟩
theorem new_cells (w : World) (cs : Array Value) (t : TypeId) : ∀ (j : Nat) (u : Value), cs.toList[j]? = some u → (w.alloc (.cells cs t)).cell? ((⟨w.heap.size, 0, none⟩ : Addr).add j) = some u := by
  intro j u h
  have h2 : (w.alloc (.cells cs t)).cell? ⟨w.heap.size, j, none⟩ = some u := by
    rw [(Blk.new w t cs).cell]
    simpa using h
  rw [Go.WideShapes.add_plain]
  simpa using h2
theorem el_one {e : El} (h : e.com.oneCell' = true) : ∀ u ∈ e.cells, u.oneCell' = true := by
  intro u hu
  simp only [El.cells, List.mem_cons, List.not_mem_nil, or_false] at hu
  rcases hu with rfl | rfl | rfl | rfl
  · exact h
  all_goals rfl

set_option maxRecDepth 100000 in
set_option maxHeartbeats 1600000 in
theorem make_any (w : World) (a b : Option Addr) (n cn m cm : Nat) (ks bs : List Int) (ha : IsInts w a n cn ks) (hb : IsInts w b m cm bs) (hn : n ≤ 65536) (hm : m ≤ 65536) :
    Calls Try.prog 17 #[.slice a n cn, .slice b m cm] w fun e w' => e = .returned (.slice (some ⟨w.heap.size, 0, none⟩) n n) ∧ Blk w' w.heap.size 61 (cellsF (mkEls ks bs n)).toArray ∧ Below w.heap.size w w' := by
  obtain ⟨hl, hlc, hcm, _, _, hr⟩ := ha
  obtain ⟨hl2, hlc2, hcm2, _, _, hr2⟩ := hb
  obtain ⟨i0, hi, hz0, hz1, hz2⟩ := info_parts Try.inf61
  have hmk : ∀ W, (Instr.makeSlice 31 (.int .i64 0) (.int .i64 n)).run Try.prog W = .ok (.slice (some ⟨W.heap.size, 0, none⟩) 0 n) (W.alloc (.cells (madeCells (Value.agg #[.slice none 0 0, .int .i64 0, .int .i64 0, .int .i64 0]).cells (n * i0.size)) 61)) := fun W => run_make_n (P := Try.prog) 31 61 i0 _ Try.underlying31 hi hz0 .i64 .i64 0 n (Nat.zero_le _) (by rw [hz2]; omega) (by omega) W
  rw [hz1] at hmk
  generalize hZ : madeCells (Value.agg #[.slice none 0 0, .int .i64 0, .int .i64 0, .int .i64 0]).cells (n * 4) = Z at hmk
  have HZ := Lib.hid (show Z.size = n * 4 by rw [← hZ]; simp [size_madeCells])
  have HL := Lib.hid hl
  have HL2 := Lib.hid hl2
  have HR := Lib.hid hr
  have HR2 := Lib.hid hr2
  have HI := Lib.hid hi
  have HI1 := Lib.hid hz1
  clear hZ hi hz0 hz1 hz2 hl hl2 hr hr2 hcm hcm2
  go_enter Try.func17, Try.ntmps17
  go_wp2_with fail
  go_loopw [5, 6] (fun v i wr => ∃ k : Nat, k ≤ n ∧ v = .slice (some ⟨w.heap.size, 0, none⟩) k n ∧ i = .int .i64 k ∧ Hid (wr.ownsRow w.heap.size 61 4 (.slice (some ⟨w.heap.size, 0, none⟩) k n) k (cellsF (mkEls ks bs k))) ∧ Below w.heap.size w wr) (fun _ i _ => n - (intOf i).toNat)
  case atStart => exact ⟨0, Nat.zero_le _, rfl, rfl, Lib.hid (own_made HZ.out (by omega)), (Below.refl _ _).alloc (Nat.le_refl _) _⟩
  case round =>
    obtain ⟨k, hk, rfl, rfl, hown, hbel⟩ := hrel
    by_cases hlt : k < n
    · obtain ⟨bb, off, rfl, hbb, hc⟩ := (HR.out.below hbel).pos (by simp [HL.out]; omega)
      obtain ⟨x, hx⟩ : ∃ x, ks[k]? = some x := ⟨ks[k]'(by rw [HL.out]; omega), by simp⟩
      have hcell := hc k (.int .i64 x) (by simp [hx])
      have HX := Lib.hid hx
      clear hc hx
      by_cases hlb : k < m
      · obtain ⟨bb2, off2, rfl, hbb2, hc2⟩ := (HR2.out.below hbel).pos (by simp [HL2.out]; omega)
        obtain ⟨y, hy⟩ : ∃ y, bs[k]? = some y := ⟨bs[k]'(by rw [HL2.out]; omega), by simp⟩
        have hcell2 := hc2 k (.int .i64 y) (by simp [hy])
        have HY := Lib.hid hy
        clear hc2 hy
        go_wp2_with (first | (at_builtin; fail) | fail)
        refine (kind_any _ _).mono ?_
        rintro e w1 ⟨rfl, rfl⟩
        go_wp2_with (at_builtin; refine wpList_append_fits _ rfl (.tmp 25) (.tmp 33) 31 rfl w.heap.size 61 i0 4 Try.underlying31 HI.out HI1.out w.heap.size k n (cellsF (mkEls ks bs k)) rfl (hown.out.alloc _) ⟨wr.heap.size, 0, none⟩ 1 1 (El.cells ⟨.slice none 0 0, kindI x, y, 0⟩) rfl rfl (new_cells _ _ _) (el_one rfl) (by omega) ?_)
        intro w1 hown1 hgrow1
        have HO := Lib.hid hown1
        have HB := Lib.hid ((hbel.alloc hbel.size (.cells #[.slice none 0 0, .int .i64 (kindI x), .int .i64 y, .int .i64 0] 61)).grown hgrow1 (by simp; exact Nat.le_succ_of_le hbel.size) (by intro q hq; injection hq with hq; omega))
        clear hown1 hgrow1 hown
        go_wp2_with fail
        go_roundw
        case rel =>
          refine ⟨k + 1, by omega, rfl, by go_num, ?_, HB.out⟩
          have E : mkEl ks bs k = ⟨.slice none 0 0, kindI x, y, 0⟩ := by simp [mkEl, HX.out, HY.out]
          rw [mkEls_succ, cellsF_append, E]
          exact HO
        case measure => simp [intOf]; omega
      · have HY := Lib.hid (show bs[k]? = none from List.getElem?_eq_none (by rw [HL2.out]; omega))
        go_wp2_with (first | (at_builtin; fail) | fail)
        refine (kind_any _ _).mono ?_
        rintro e w1 ⟨rfl, rfl⟩
        go_wp2_with (at_builtin; refine wpList_append_fits _ rfl (.tmp 25) (.tmp 33) 31 rfl w.heap.size 61 i0 4 Try.underlying31 HI.out HI1.out w.heap.size k n (cellsF (mkEls ks bs k)) rfl (hown.out.alloc _) ⟨wr.heap.size, 0, none⟩ 1 1 (El.cells ⟨.slice none 0 0, kindI x, 0, 0⟩) rfl rfl (new_cells _ _ _) (el_one rfl) (by omega) ?_)
        intro w1 hown1 hgrow1
        have HO := Lib.hid hown1
        have HB := Lib.hid ((hbel.alloc hbel.size (.cells #[.slice none 0 0, .int .i64 (kindI x), .int .i64 0, .int .i64 0] 61)).grown hgrow1 (by simp; exact Nat.le_succ_of_le hbel.size) (by intro q hq; injection hq with hq; omega))
        clear hown1 hgrow1 hown
        go_wp2_with fail
        go_roundw
        case rel =>
          refine ⟨k + 1, by omega, rfl, by go_num, ?_, HB.out⟩
          have E : mkEl ks bs k = ⟨.slice none 0 0, kindI x, 0, 0⟩ := by simp [mkEl, HX.out, HY.out]
          rw [mkEls_succ, cellsF_append, E]
          exact HO
        case measure => simp [intOf]; omega
    · have hkn : k = n := by omega
      subst hkn
      go_wp2_with fail
      go_ret
      exact ⟨rfl, own_blk hown.out, hbel⟩
end Go.Proofs.Ytginajepkfndoaa
