/- StripAllButComments.Fodder: the walk. -/
import Derived.Test.YtofhjpmkpgbgiaaCol
import Derived.Deep.RegionLaw
namespace Go.Proofs.Ytofhjpmkpgbgiaa
open Go.RowKit
set_option linter.unusedVariables false

def Visited (w : World) (X : Nat → Prop) (base c p : Nat) (S : Nat → Prop) (L : List LE) (e : Ending) (w' : World) : Prop :=
  e = .returned (.tuple #[]) ∧ ∃ cv els, St w w' X base c p (.slice none 0 0) S cv els L

set_option maxRecDepth 100000 in
set_option maxHeartbeats 6400000 in
theorem visit_any (w : World) (X : Nat → Prop) (base c p : Nat) (v : Value) (S : Nat → Prop) (cv : Value) (els : List El) (L : List LE) (f : Option (List LE)) (h : St w w X base c p v S cv els L) (hf : FodV w S v f) (hL : L.length ≤ 16777216) (pv cx : Value) :
    Calls Try.prog 19 #[.pointer (some ⟨c, 0, none⟩), pv, .pointer (some ⟨p, 0, none⟩), cx] w (Visited w X base c p S (L ++ keep (f.getD []))) := by
  obtain ⟨a, cap, rfl, hle, hfod, _⟩ := hf.open
  unfold Visited
  generalize f.getD [] = es at *
  clear hf
  generalize hn : es.length = n at *
  have HN := Lib.hid hn
  have HF := Lib.hid hfod
  have HS := Lib.hid h
  have c0 := h.bp.cell 0
  simp at c0
  clear hn hfod
  obtain ⟨i0, hi, hz0, hz1, hz2⟩ := info_parts Try.inf50
  have HI := Lib.hid hi
  have HZ0 := Lib.hid hz0
  have HZ1 := Lib.hid hz1
  have HZ2 := Lib.hid hz2
  have HOK := Lib.hid h.oks
  clear hi hz0 hz1 hz2 h
  go_enter Try.func19, Try.ntmps19
  go_wp2_with fail
  go_loopw [14] (fun i wr => ∃ k : Nat, k ≤ n ∧ i = .int .i64 k ∧ Hid (∃ cv els, St w wr X base c p (.slice a n cap) S cv els (L ++ keep (es.take k)))) (fun i _ => n - (intOf i).toNat)
  case atStart => exact ⟨0, Nat.zero_le _, rfl, Lib.hid ⟨cv, els, by simpa [keep] using HS.out⟩⟩
  case round =>
    clear HS
    obtain ⟨k, hk, rfl, hst⟩ := hrel
    obtain ⟨cv, els, hst⟩ := hst.out
    have hLl : els.length ≤ L.length + 2 * k := by
      rw [hst.len, List.length_append]
      have := keep_le (es.take k)
      have h2 : (es.take k).length ≤ k := by simp; exact Nat.min_le_left _ _
      omega
    have cc := hst.bc.cell 0
    simp at cc
    have ff := hst.bc.free 0
    have hcl := hst.bc.lt
    have HST := Lib.hid hst
    by_cases hlt : k < n
    · obtain ⟨e, he⟩ : ∃ e, es[k]? = some e := ⟨es[k]'(by rw [HN.out]; exact hlt), by simp⟩
      obtain ⟨b, off, com, hx, hb, hcm, x0, x1, x2, x3⟩ := (HF.out.keep (hst.fr.agree HOK.out)).at he
      subst hx
      obtain ⟨ca, cl, cc', rfl⟩ := hcm.is_slice
      have hbw : b < wr.heap.size := Nat.lt_of_lt_of_le (HOK.out b hb).1 hst.fr.size
      have hbg : wr.heap.size ≠ b := by omega
      have hcg : wr.heap.size ≠ c := by omega
      have hks := keep_succ es k e he
      have HCM := Lib.hid hcm
      clear hst he hcm
      by_cases hk2 : e.kind = 2
      · have HK := Lib.hid (show keep (es.take (k + 1)) = keep (es.take k) ++ [⟨2, 0, 0, e.com⟩] by rw [hks]; simp [keepE, hk2])
        clear hks
        obtain ⟨kd, bl, ind, cm⟩ := e
        simp only at x0 x1 x2 x3 hk2
        subst hk2
        go_wp2_with fail
        go_region_law (refine step_append_lies _ rfl (.tmp 25) (.tmp 29) 26 rfl base 50 i0 _ 4 48 Try.underlying26 HI.out HZ0.out HZ1.out HZ2.out (by simp [Value.cells]) (by omega) cv els.length (cellsF els) rfl ((HST.out.alloc _).alloc _).own _ 1 1 (El.cells ⟨.slice ca cl cc', 2, 0, 0⟩) rfl rfl (new_cellsN _ _ _ _ (by simp)) (by intro u hu; simp only [El.cells, List.mem_cons, List.not_mem_nil, or_false] at hu; rcases hu with rfl | rfl | rfl | rfl <;> rfl) (by omega) (by unfold maxLen; omega) (by omega) (by have := HST.out.okc.2.2.2.2.2; have := HST.out.fr.size; simp; omega) _ rfl ?_; intro g2 cap2 w2 hown hgrow hw2 hlt2; have c2 := (((HST.out.alloc _).alloc _).drew.grownC hgrow).1.cell 0; have f2 := (((HST.out.alloc _).alloc _).drew.grownC hgrow).1.free 0; simp at c2)
        all_goals
          have HA := Lib.hid (((HST.out.alloc (.cells #[.slice ca cl cc', .int .i64 2, .int .i64 bl, .int .i64 ind] 50)).alloc (.cells #[.slice ca cl cc', .int .i64 2, .int .i64 0, .int .i64 0] 50)).drew.app (el := ⟨.slice ca cl cc', 2, 0, 0⟩) (e := ⟨2, 0, 0, cm⟩) ⟨rfl, rfl, rfl, (HCM.out.keep (Agree.alloc S wr _ fun b hb => Nat.lt_of_lt_of_le (HOK.out b hb).1 HST.out.fr.size)).keep ((Agree.alloc S _ _ fun b hb => by have := (HOK.out b hb).1; have := HST.out.fr.size; simp; omega).trans (Agree.drew S _))⟩ hown hgrow hw2)
          rw [List.append_assoc L, ← HK.out] at HA
          clear hown hgrow hw2 c2 f2
          go_wp2
          go_roundw
          case rel => exact ⟨k + 1, by omega, by go_num, Lib.hid ⟨_, _, HA.out⟩⟩
          case measure => simp [intOf]; omega
      · by_cases hk1 : e.kind = 1
        · have HK := Lib.hid (show keep (es.take (k + 1)) = (keep (es.take k) ++ [e]) ++ [⟨0, 0, 0, none⟩] by rw [hks]; simp [keepE, hk1])
          clear hks
          obtain ⟨kd, bl, ind, cm⟩ := e
          simp only at x0 x1 x2 x3 hk2 hk1
          subst hk1
          go_wp2_with fail
          go_region_law (refine step_append_lies _ rfl (.tmp 40) (.tmp 42) 26 rfl base 50 i0 _ 4 48 Try.underlying26 HI.out HZ0.out HZ1.out HZ2.out (by simp [Value.cells]) (by omega) cv els.length (cellsF els) rfl ((HST.out.alloc _).alloc _).own _ 1 1 (El.cells ⟨.slice ca cl cc', 1, bl, ind⟩) rfl rfl (new_cellsN _ _ _ _ (by simp)) (by intro u hu; simp only [El.cells, List.mem_cons, List.not_mem_nil, or_false] at hu; rcases hu with rfl | rfl | rfl | rfl <;> rfl) (by omega) (by unfold maxLen; omega) (by omega) (by have := HST.out.okc.2.2.2.2.2; have := HST.out.fr.size; simp; omega) _ rfl ?_; intro g2 cap2 w2 hown hgrow hw2 hlt2; have c2 := (((HST.out.alloc _).alloc _).drew.grownC hgrow).1.cell 0; have f2 := (((HST.out.alloc _).alloc _).drew.grownC hgrow).1.free 0; simp at c2)
          all_goals
            have HA := Lib.hid (((HST.out.alloc (.cells #[.slice ca cl cc', .int .i64 1, .int .i64 bl, .int .i64 ind] 50)).alloc (.cells #[.slice ca cl cc', .int .i64 1, .int .i64 bl, .int .i64 ind] 50)).drew.app (el := ⟨.slice ca cl cc', 1, bl, ind⟩) (e := ⟨1, bl, ind, cm⟩) ⟨rfl, rfl, rfl, (HCM.out.keep (Agree.alloc S wr _ fun b hb => Nat.lt_of_lt_of_le (HOK.out b hb).1 HST.out.fr.size)).keep ((Agree.alloc S _ _ fun b hb => by have := (HOK.out b hb).1; have := HST.out.fr.size; simp; omega).trans (Agree.drew S _))⟩ hown hgrow hw2)
            rw [List.append_assoc L] at HA
            clear hown hgrow hw2 c2 f2
            generalize w2.setCell ⟨c, 0, none⟩ (.slice (some ⟨g2, 0, none⟩) (els.length + 1) cap2) = w3 at *
            have c3 := HA.out.bc.cell 0
            simp at c3
            have hc3l := HA.out.bc.lt
            have f3 := HA.out.bc.free 0
            clear x0 x1 x2 x3 cc ff HCM HF
            go_wp2_with (first | (with_reducible show wpList _ _ _ (⟨some 53, _, _, _, _, _⟩ :: _) _ _; refine of_hid ?_) | fail)
            refine Lib.hid ?_
            refine wpList_append_lies _ (o := ⟨some 53, _, _, _, _, _⟩) rfl (.tmp 50) (.tmp 52) 26 rfl base 50 i0 _ 4 48 Try.underlying26 HI.out HZ0.out HZ1.out HZ2.out (by simp [Value.cells]) (by omega) (.slice (some ⟨g2, 0, none⟩) (els.length + 1) cap2) (els.length + 1) _ rfl (by have := (HA.out.alloc (.cells #[.slice none 0 0, .int .i64 0, .int .i64 0, .int .i64 0] 50)).own; simpa using this) _ 1 1 (El.cells ⟨.slice none 0 0, 0, 0, 0⟩) rfl rfl (new_cellsN _ _ _ _ (by simp)) (by intro u hu; simp only [El.cells, List.mem_cons, List.not_mem_nil, or_false] at hu; rcases hu with rfl | rfl | rfl | rfl <;> rfl) (by omega) (by unfold maxLen; omega) (by omega) (by have := HST.out.okc.2.2.2.2.2; have := HA.out.fr.size; simp; omega) _ rfl ?_
            intro g4 cap4 w4 hown4 hgrow4 hw4 hlt4
            have hg4 := (HA.out.alloc (.cells #[.slice none 0 0, .int .i64 0, .int .i64 0, .int .i64 0] 50)).grownC hgrow4
            have c4 := hg4.1.cell 0
            simp at c4
            have f4 := hg4.1.free 0
            have hc4l := hg4.1.lt
            have HA4 := Lib.hid ((HA.out.alloc (.cells #[.slice none 0 0, .int .i64 0, .int .i64 0, .int .i64 0] 50)).app (el := ⟨.slice none 0 0, 0, 0, 0⟩) (e := ⟨0, 0, 0, none⟩) ⟨rfl, rfl, rfl, rfl⟩ (by simpa using hown4) hgrow4 hw4)
            rw [List.append_assoc L, ← HK.out] at HA4
            clear hown4 hgrow4 hw4 hg4 c3 f3 HA HST
            go_wp2
            go_roundw
            case rel => exact ⟨k + 1, by omega, by go_num, Lib.hid ⟨_, _, by simpa using HA4.out⟩⟩
            case measure => simp [intOf]; omega
        · have HK := Lib.hid (show keep (es.take (k + 1)) = keep (es.take k) by rw [hks]; simp [keepE, hk2, hk1])
          clear hks
          obtain ⟨kd, bl, ind, cm⟩ := e
          simp only at x0 x1 x2 x3 hk2 hk1
          go_wp2
          go_roundw
          case rel => exact ⟨k + 1, by omega, by go_num, Lib.hid ⟨cv, els, by rw [HK.out]; exact HST.out.alloc _⟩⟩
          case measure => simp [intOf]; omega
    · obtain rfl : k = n := by omega
      have cp := hst.bp.cell 0
      simp at cp
      have fp := hst.bp.free 0
      have hpl := hst.bp.lt
      have HF2 := Lib.hid (show es.take k = es from List.take_of_length_le (by rw [HN.out]; exact Nat.le_refl _))
      clear hst
      go_wp2
      go_end0
      have := HST.out.clear (.slice none 0 0)
      rw [HF2.out] at this
      exact ⟨rfl, cv, els, this⟩
end Go.Proofs.Ytofhjpmkpgbgiaa
