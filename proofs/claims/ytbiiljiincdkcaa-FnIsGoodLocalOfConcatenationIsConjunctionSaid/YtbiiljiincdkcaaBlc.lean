/- buildLocal: a local whose binds are as the codes say. -/
import Derived.Test.YtbiiljiincdkcaaBnd
namespace Go.Proofs.Ytbiiljiincdkcaa
open Go.RowKit
set_option linter.unusedVariables false

theorem Try.inf55 : (Try.prog.info? 55).map (fun i => (i.zero, i.size, i.bytes)) = some (some (.agg (Bd.cells ⟨.nilIface, .pointer none⟩).toArray), 12, 168) := by kernel_rfl
theorem own_made {w : World} {e size n : Nat} {Z : Array Value} (hz : Z.size = n * size) (hn : n ≤ 131072) : (w.alloc (.cells Z e)).ownsRow w.heap.size e size (.slice (some ⟨w.heap.size, 0, none⟩) 0 n) 0 [] :=
  ⟨by simp, .inr ⟨w.heap.size, n, Z, rfl, Nat.le_refl _, Blk.new w e Z, Nat.zero_le _, by unfold maxLen; omega, hz, by simp⟩⟩
theorem new_cells (w : World) (cs : Array Value) (t : TypeId) : ∀ (j : Nat) (u : Value), cs.toList[j]? = some u → (w.alloc (.cells cs t)).cell? ((⟨w.heap.size, 0, none⟩ : Addr).add j) = some u := by
  intro j u h
  have h2 : (w.alloc (.cells cs t)).cell? ⟨w.heap.size, j, none⟩ = some u := by
    rw [(Blk.new w t cs).cell]
    simpa using h
  rw [Go.WideShapes.add_plain]
  simpa using h2
theorem own_below {w w' : World} {base e size n : Nat} {v : Value} {xs : List Value} (h : w.ownsRow base e size v n xs) (hb : Below w.heap.size w w') : w'.ownsRow base e size v n xs := by
  obtain ⟨hl, h⟩ := h
  refine ⟨hl, ?_⟩
  rcases h with h | ⟨g', cap, cur, hv, hbb, hh, h1, h2, h3, h4⟩
  · exact .inl h
  · exact .inr ⟨g', cap, cur, hv, hbb, Blk.under (t := e) hh hb, h1, h2, h3, h4⟩
theorem own_rd {w : World} {base e size g n c B : Nat} {xs : List Value} (h : w.ownsRow base e size (.slice (some ⟨g, 0, none⟩) n c) n xs) (hB : w.heap.size ≤ B) : Rd w B (some ⟨g, 0, none⟩) xs := by
  rcases Nat.eq_zero_or_pos xs.length with h0 | h0
  · exact .inl (List.eq_nil_of_length_eq_zero h0)
  · have hc := h.cells (g := g) rfl
    refine .inr ⟨g, 0, rfl, ?_, fun i u hu => ?_⟩
    · have := (h.lt g rfl).2
      omega
    · have := hc i u hu
      rw [Go.WideShapes.add_plain] at this
      exact this
theorem bd_one {b : Bd} {g : Bool} (h : b.Is g) : ∀ u ∈ b.cells, u.oneCell' = true := by
  have h1 : b.body.oneCell' = true ∧ b.fn.oneCell' = true := by
    obtain ⟨body, fn⟩ := b
    cases g
    · rcases h with ⟨p, q, h1, h2⟩ | ⟨h1, ⟨p, h2⟩ | ⟨p, h2⟩ | h2⟩
      all_goals
        simp only at h1 h2
        subst h1 h2
        exact ⟨rfl, rfl⟩
    · obtain ⟨h1, p, h2⟩ := h
      simp only at h1 h2
      subst h1 h2
      exact ⟨rfl, rfl⟩
  intro u hu
  simp only [Bd.cells, List.mem_cons, List.not_mem_nil, or_false] at hu
  rcases hu with rfl | rfl | rfl | rfl | rfl | rfl | rfl | rfl | rfl | rfl | rfl | rfl
  case inr.inl => exact h1.1
  case inr.inr.inr.inr.inr.inl => exact h1.2
  all_goals rfl

/-- The binds so far. -/
def Bds (zs : List Int) (k : Nat) (bs : List Bd) : Prop := bs.length = k ∧ ∀ (i : Nat) (b : Bd) (g : Bool), bs[i]? = some b → (zs.map goodC)[i]? = some g → b.Is g
theorem Bds.snoc {zs : List Int} {k : Nat} {bs : List Bd} (h : Bds zs k bs) {b : Bd} {x : Int} (hx : zs[k]? = some x) (hb : b.Is (codeI x == 0)) : Bds zs (k + 1) (bs ++ [b]) := by
  refine ⟨by simp [h.1], fun i b' g hi hg => ?_⟩
  rcases Nat.lt_or_ge i k with hl | hl
  · rw [List.getElem?_append_left (by rw [h.1]; exact hl)] at hi
    exact h.2 i b' g hi hg
  · rw [List.getElem?_append_right (by rw [h.1]; exact hl), h.1] at hi
    have hik : i = k := by
      rcases Nat.eq_or_lt_of_le hl with e | e
      · exact e.symm
      · rw [List.getElem?_eq_none (by simp; omega)] at hi
        cases hi
    subst hik
    simp at hi
    subst hi
    simp [hx] at hg
    subst hg
    exact hb
def plain (zs : List Int) (k : Nat) : Bool := ((zs.map goodC).take k).all id
theorem plain_succ (zs : List Int) (k : Nat) (x : Int) (h : zs[k]? = some x) : plain zs (k + 1) = (plain zs k && (codeI x == 0)) := by
  unfold plain
  rw [List.take_add_one, List.getElem?_map, h]
  simp [goodC]

set_option maxRecDepth 100000 in
set_option maxHeartbeats 1600000 in
theorem build_any (w : World) (a : Option Addr) (n cn : Nat) (zs : List Int) (ha : IsInts w a n cn zs) (hn : n ≤ 131072) :
    Calls Try.prog 7 #[.slice a n cn] w fun e w' => ∃ L, e = .returned (.tuple #[.pointer (some ⟨L, 0, none⟩), .bool ((zs.map goodC).all id)]) ∧ Loc w' L (zs.map goodC) ∧ w.heap.size ≤ L ∧ Below w.heap.size w w' := by
  obtain ⟨hl, hlc, hcm, _, _, hr⟩ := ha
  obtain ⟨i0, hi, hz0, hz1, hz2⟩ := info_parts Try.inf55
  have hmk : ∀ W, (Instr.makeSlice 29 (.int .i64 0) (.int .i64 n)).run Try.prog W = .ok (.slice (some ⟨W.heap.size, 0, none⟩) 0 n) (W.alloc (.cells (madeCells (Value.agg (Bd.cells ⟨.nilIface, .pointer none⟩).toArray).cells (n * i0.size)) 55)) := fun W => run_make_n (P := Try.prog) 29 55 i0 _ Try.underlying29 hi hz0 .i64 .i64 0 n (Nat.zero_le _) (by rw [hz2]; omega) (by omega) W
  rw [hz1] at hmk
  generalize hZ : madeCells (Value.agg (Bd.cells ⟨.nilIface, .pointer none⟩).toArray).cells (n * 12) = Z at hmk
  have HZ := Lib.hid (show Z.size = n * 12 by rw [← hZ]; simp [size_madeCells])
  have HL := Lib.hid hl
  have HR := Lib.hid hr
  have HI := Lib.hid hi
  have HI1 := Lib.hid hz1
  clear hZ hi hz0 hz1 hz2 hl hr hcm
  go_enter Try.func7, Try.ntmps7
  go_wp2_with fail
  go_loopw [4, 5, 6] (fun v p i wr => ∃ k : Nat, k ≤ n ∧ v = .slice (some ⟨w.heap.size, 0, none⟩) k n ∧ p = .bool (plain zs k) ∧ i = .int .i64 k ∧ Hid (∃ bs, Bds zs k bs ∧ wr.ownsRow w.heap.size 55 12 (.slice (some ⟨w.heap.size, 0, none⟩) k n) k (cellsB bs)) ∧ Below w.heap.size w wr) (fun _ _ i _ => n - (intOf i).toNat)
  case atStart => exact ⟨0, Nat.zero_le _, rfl, rfl, rfl, Lib.hid ⟨[], ⟨rfl, fun i b g h => by simp at h⟩, own_made HZ.out (by omega)⟩, (Below.refl _ _).alloc (Nat.le_refl _) _⟩
  case round =>
    obtain ⟨k, hk, rfl, rfl, rfl, ho, hbel⟩ := hrel
    by_cases hlt : k < n
    · obtain ⟨bb, off, rfl, hbb, hc⟩ := (HR.out.below hbel).pos (by simp [HL.out]; omega)
      obtain ⟨x, hx⟩ : ∃ x, zs[k]? = some x := ⟨zs[k]'(by rw [HL.out]; omega), by simp⟩
      have hcell := hc k (.int .i64 x) (by simp [hx])
      have HX := Lib.hid hx
      clear hc hx
      have HP := Lib.hid (plain_succ zs k x HX.out)
      have hcr := code_rng x
      have finish : ∀ (bs : List Bd) (b : Bd) (w1 : World), Bds zs k bs → wr.ownsRow w.heap.size 55 12 (.slice (some ⟨w.heap.size, 0, none⟩) k n) k (cellsB bs) → b.Is (codeI x == 0) → Below wr.heap.size wr w1 → True := fun _ _ _ _ _ _ _ => trivial
      clear finish
      by_cases hz : codeI x = 0
      · have t0 : (codeI x != 0) = false := by simp [hz]
        have HZ0 := Lib.hid hz
        clear hz
        go_wp2_with fail
        refine (code_any _ _).mono ?_
        rintro e w1 ⟨rfl, rfl⟩
        go_wp2_with fail
        refine (mk_any _ _ hcr.1 hcr.2).mono ?_
        rintro e w1 ⟨b, rfl, hb, hb1⟩
        obtain ⟨bs, hbs, hown⟩ := ho.out
        have hown := own_below hown hb1
        have hone := Lib.hid (bd_one hb)
        have hbel1 := (bel_old hbel hb1 hbel.size)
        have HBS := Lib.hid (hbs.snoc HX.out hb)
        obtain ⟨body, fn⟩ := b
        unfold Bd.cells
        clear hbs hb hb1 ho
        go_wp2_with (at_builtin; refine wpList_append_fits _ rfl (.tmp 24) (.tmp 27) 29 rfl w.heap.size 55 i0 12 Try.underlying29 HI.out HI1.out w.heap.size k n (cellsB bs) rfl (hown.alloc _) ⟨w1.heap.size, 0, none⟩ 1 1 (Bd.cells ⟨body, fn⟩) rfl rfl (new_cells _ _ _) hone.out (by omega) ?_)
        intro w2 hown1 hgrow1
        have HO := Lib.hid hown1
        have HB := Lib.hid ((hbel1.1.alloc hbel1.2 (.cells (Bd.cells ⟨body, fn⟩).toArray 55)).grown hgrow1 (by simp; exact Nat.le_succ_of_le hbel1.2) (by intro q hq; injection hq with hq; omega))
        clear hown1 hgrow1 hown
        go_wp2_with fail
        go_roundw
        case rel =>
          refine ⟨k + 1, by omega, rfl, ?_, by go_num, Lib.hid ⟨bs ++ [⟨body, fn⟩], HBS.out, ?_⟩, HB.out⟩
          · rw [HP.out, HZ0.out]; simp
          · rw [cellsB_append]
            exact HO.out
        case measure => simp [intOf]; omega
      · have t0 : (codeI x != 0) = true := by simp [hz]
        have HZ0 := Lib.hid (show (codeI x == 0) = false by simp [hz])
        clear hz
        go_wp2_with fail
        refine (code_any _ _).mono ?_
        rintro e w1 ⟨rfl, rfl⟩
        go_wp2_with fail
        refine (mk_any _ _ hcr.1 hcr.2).mono ?_
        rintro e w1 ⟨b, rfl, hb, hb1⟩
        obtain ⟨bs, hbs, hown⟩ := ho.out
        have hown := own_below hown hb1
        have hone := Lib.hid (bd_one hb)
        have hbel1 := (bel_old hbel hb1 hbel.size)
        have HBS := Lib.hid (hbs.snoc HX.out hb)
        obtain ⟨body, fn⟩ := b
        unfold Bd.cells
        clear hbs hb hb1 ho
        go_wp2_with (at_builtin; refine wpList_append_fits _ rfl (.tmp 24) (.tmp 27) 29 rfl w.heap.size 55 i0 12 Try.underlying29 HI.out HI1.out w.heap.size k n (cellsB bs) rfl (hown.alloc _) ⟨w1.heap.size, 0, none⟩ 1 1 (Bd.cells ⟨body, fn⟩) rfl rfl (new_cells _ _ _) hone.out (by omega) ?_)
        intro w2 hown1 hgrow1
        have HO := Lib.hid hown1
        have HB := Lib.hid ((hbel1.1.alloc hbel1.2 (.cells (Bd.cells ⟨body, fn⟩).toArray 55)).grown hgrow1 (by simp; exact Nat.le_succ_of_le hbel1.2) (by intro q hq; injection hq with hq; omega))
        clear hown1 hgrow1 hown
        go_wp2_with fail
        go_roundw
        case rel =>
          refine ⟨k + 1, by omega, rfl, ?_, by go_num, Lib.hid ⟨bs ++ [⟨body, fn⟩], HBS.out, ?_⟩, HB.out⟩
          · rw [HP.out, HZ0.out]; simp
          · rw [cellsB_append]
            exact HO.out
        case measure => simp [intOf]; omega
    · have hkn : k = n := by omega
      subst hkn
      have HF := Lib.hid (show plain zs k = (zs.map goodC).all id by unfold plain; rw [List.take_of_length_le (by simp [HL.out])])
      go_wp2_with fail
      go_ret2
      obtain ⟨bs, hbs, hown⟩ := ho.out
      refine ⟨wr.heap.size, by rw [← HF.out]; rfl, ?_, hbel.size, hbel.alloc hbel.size _⟩
      refine ⟨some ⟨w.heap.size, 0, none⟩, k, bs, ?_, by simp, ?_, by simp [HL.out]; omega, by simp [hbs.1, HL.out], hbs.2⟩
      · rw [(Blk.new wr _ _).cell]
        simp [HL.out]
      · exact own_rd (hown.alloc _) (Nat.le_refl _)
end Go.Proofs.Ytbiiljiincdkcaa
