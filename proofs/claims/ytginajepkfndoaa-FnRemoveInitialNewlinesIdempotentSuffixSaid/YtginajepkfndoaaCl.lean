/- zzCloneFodder, zzSameFodder, removeInitialNewlines. -/
import Derived.Test.YtginajepkfndoaaMk
import Derived.Test.YtginajepkfndoaaWr
namespace Go.Proofs.Ytginajepkfndoaa
open Go.RowKit
set_option linter.unusedVariables false

/-- The four cells of element k of a row. -/
theorem row_at {w : World} {B : Nat} {a : Option Addr} {es : List El} (h : Rd w B a (cellsF es)) {k : Nat} {e : El} (he : es[k]? = some e) :
    ∃ b off, a = some ⟨b, off, none⟩ ∧ b < B ∧ w.cell? ⟨b, off + k * 4, none⟩ = some e.com ∧ w.cell? ⟨b, off + k * 4 + 1, none⟩ = some (.int .i64 e.kind) ∧ w.cell? ⟨b, off + k * 4 + 2, none⟩ = some (.int .i64 e.blanks) ∧ w.cell? ⟨b, off + k * 4 + 3, none⟩ = some (.int .i64 e.indent) := by
  have hk : k < es.length := (List.getElem?_eq_some_iff.1 he).1
  obtain ⟨b, off, ha, hb, hc⟩ := h.pos (by rw [cellsF_len]; omega)
  exact ⟨b, off, ha, hb, hc _ _ (cellsF_com es k e he), by rw [Nat.add_assoc]; exact hc _ _ (cellsF_kind es k e he), by rw [Nat.add_assoc]; exact hc _ _ (cellsF_blanks es k e he), by rw [Nat.add_assoc]; exact hc _ _ (cellsF_indent es k e he)⟩

def Coms (es : List El) : Prop := ∀ e ∈ es, e.com = .slice none 0 0

set_option maxRecDepth 100000 in
set_option maxHeartbeats 1600000 in
theorem clone_some (w : World) (x : Addr) (n c : Nat) (es : List El) (hlen : es.length = n) (hn : n ≤ 65536) (hco : Coms es) (hr : Rd w w.heap.size (some x) (cellsF es)) :
    Calls Try.prog 21 #[.slice (some x) n c] w fun e w' => e = .returned (.slice (some ⟨w.heap.size, 0, none⟩) n n) ∧ Blk w' w.heap.size 61 (cellsF es).toArray ∧ Below w.heap.size w w' := by
  obtain ⟨i0, hi, hz0, hz1, hz2⟩ := info_parts Try.inf61
  have hmk : ∀ W, (Instr.makeSlice 31 (.int .i64 0) (.int .i64 n)).run Try.prog W = .ok (.slice (some ⟨W.heap.size, 0, none⟩) 0 n) (W.alloc (.cells (madeCells (Value.agg #[.slice none 0 0, .int .i64 0, .int .i64 0, .int .i64 0]).cells (n * i0.size)) 61)) := fun W => run_make_n (P := Try.prog) 31 61 i0 _ Try.underlying31 hi hz0 .i64 .i64 0 n (Nat.zero_le _) (by rw [hz2]; omega) (by omega) W
  rw [hz1] at hmk
  generalize hZ : madeCells (Value.agg #[.slice none 0 0, .int .i64 0, .int .i64 0, .int .i64 0]).cells (n * 4) = Z at hmk
  have HZ := Lib.hid (show Z.size = n * 4 by rw [← hZ]; simp [size_madeCells])
  have HL := Lib.hid hlen
  have HR := Lib.hid hr
  have HC := Lib.hid hco
  have HI := Lib.hid hi
  have HI1 := Lib.hid hz1
  have hnil := fun (W : World) (A : Option Addr) => Lib.run_eql_slice_nil (P := Try.prog) W 31 61 A n c 0 0 Try.underlying31
  clear hZ hi hz0 hz1 hz2 hlen hr hco
  go_enter Try.func21, Try.ntmps21
  go_wp2_with fail
  go_loopw [3, 4] (fun v i wr => ∃ k : Nat, k ≤ n ∧ v = .slice (some ⟨w.heap.size, 0, none⟩) k n ∧ i = .int .i64 k ∧ Hid (wr.ownsRow w.heap.size 61 4 (.slice (some ⟨w.heap.size, 0, none⟩) k n) k (cellsF (es.take k))) ∧ Below w.heap.size w wr) (fun _ i _ => n - (intOf i).toNat)
  case atStart => exact ⟨0, Nat.zero_le _, rfl, rfl, Lib.hid (own_made HZ.out (by omega)), (Below.refl _ _).alloc (Nat.le_refl _) _⟩
  case round =>
    obtain ⟨k, hk, rfl, rfl, hown, hbel⟩ := hrel
    by_cases hlt : k < n
    · obtain ⟨e, he⟩ : ∃ e, es[k]? = some e := ⟨es[k]'(by rw [HL.out]; omega), by simp⟩
      have HE := Lib.hid he
      obtain ⟨b, off, hx, hb, x0, x1, x2, x3⟩ := row_at (HR.out.below hbel) he
      obtain rfl := Option.some.inj hx
      have hcm := HC.out e (List.mem_of_getElem? he)
      obtain ⟨ec, ek, eb, ei⟩ := e
      simp only at hcm x0 x1 x2 x3
      subst hcm
      clear he hx
      go_wp2_with (at_builtin; refine wpList_append_fits _ rfl (.tmp 16) (.tmp 21) 31 rfl w.heap.size 61 i0 4 Try.underlying31 HI.out HI1.out w.heap.size k n (cellsF (es.take k)) rfl (hown.out.alloc _) ⟨wr.heap.size, 0, none⟩ 1 1 (El.cells ⟨.slice none 0 0, ek, eb, ei⟩) rfl rfl (new_cells _ _ _) (el_one rfl) (by omega) ?_)
      intro w1 hown1 hgrow1
      have HO := Lib.hid hown1
      have HB := Lib.hid ((hbel.alloc hbel.size (.cells #[.slice none 0 0, .int .i64 ek, .int .i64 eb, .int .i64 ei] 61)).grown hgrow1 (by simp; exact Nat.le_succ_of_le hbel.size) (by intro q hq; injection hq with hq; omega))
      clear hown1 hgrow1 hown x0 x1 x2 x3
      go_wp2_with fail
      go_roundw
      case rel =>
        refine ⟨k + 1, by omega, rfl, by go_num, ?_, HB.out⟩
        rw [List.take_add_one, HE.out, cellsF_append]
        exact HO
      case measure => simp [intOf]; omega
    · have hkn : k = n := by omega
      subst hkn
      go_wp2_with fail
      go_ret
      refine ⟨rfl, ?_, hbel⟩
      have := own_blk hown.out
      rw [List.take_of_length_le (by rw [HL.out]; omega)] at this
      exact this

set_option maxRecDepth 100000 in
set_option maxHeartbeats 1600000 in
theorem same_any (w : World) (a b : Option Addr) (n c c' : Nat) (es : List El) (hlen : es.length = n) (hn : n ≤ 65536) (hr : Rd w w.heap.size a (cellsF es)) (hr2 : Rd w w.heap.size b (cellsF es)) :
    Calls Try.prog 19 #[.slice a n c, .slice b n c'] w fun e w' => e = .returned (.bool true) ∧ ∃ m, w' = w.drewN m := by
  have HL := Lib.hid hlen
  have HR := Lib.hid hr
  have HR2 := Lib.hid hr2
  clear hlen hr hr2
  go_enter Try.func19, Try.ntmps19
  go_wp2_with fail
  go_loopw [5] (fun i wr => ∃ k m : Nat, k ≤ n ∧ i = .int .i64 k ∧ wr = w.drewN m) (fun i _ => n - (intOf i).toNat)
  case atStart => exact ⟨0, 0, Nat.zero_le _, rfl, rfl⟩
  case round =>
    obtain ⟨k, m, hk, rfl, rfl⟩ := hrel
    by_cases hlt : k < n
    · obtain ⟨e, he⟩ : ∃ e, es[k]? = some e := ⟨es[k]'(by rw [HL.out]; omega), by simp⟩
      obtain ⟨b1, off1, rfl, hb1, x0, x1, x2, x3⟩ := row_at HR.out he
      obtain ⟨b2, off2, rfl, hb2, y0, y1, y2, y3⟩ := row_at HR2.out he
      clear he
      go_wp2_with fail
      go_quiet (fail)
      go_wp2_with fail
      go_roundw
      case rel => exact ⟨k + 1, _, by omega, by go_num, by first | rfl | (simp only [World.drewN_drewN]; rfl)⟩
      case measure => simp [intOf]; omega
    · go_wp2_with fail
      go_ret
      exact ⟨rfl, _, rfl⟩

theorem Rd.setOther {w : World} {B : Nat} {a : Option Addr} {xs : List Value} (h : Rd w B a xs) {p : Addr} {v : Value} (hp : w.cell? p = some v) (hv : v ∉ xs) (u : Value) : Rd (w.setCell p u) B a xs := by
  rcases h with h | ⟨b, off, ha, hb, hc⟩
  · exact .inl h
  · refine .inr ⟨b, off, ha, hb, fun i x hx => ?_⟩
    rw [World.cell?_setCell_other w p ⟨b, off + i, none⟩ u (by
      intro e
      subst e
      rw [hc i x hx] at hp
      exact hv (Option.some.inj hp ▸ List.mem_of_getElem? hx))]
    exact hc i x hx
theorem Rd.drop {w : World} {B b off : Nat} {xs : List Value} (h : Rd w B (some ⟨b, off, none⟩) xs) (k : Nat) : Rd w B (some ⟨b, off + k, none⟩) (xs.drop k) := by
  rcases h with h | ⟨b', off', ha, hb, hc⟩
  · exact .inl (by simp [h])
  · injection ha with ha
    injection ha with h1 h2
    subst h1 h2
    refine .inr ⟨b, off + k, rfl, hb, fun i x hx => ?_⟩
    rw [Nat.add_assoc]
    exact hc _ x (by rw [List.getElem?_drop] at hx; exact hx)
theorem big_not_mem {es : List El} (hco : Coms es) (A : Option Addr) (m c : Nat) (hm : 0 < m) : Value.slice A m c ∉ cellsF es := by
  intro h
  simp only [cellsF, List.mem_flatMap] at h
  obtain ⟨e, he, hu⟩ := h
  simp only [El.cells, List.mem_cons, List.not_mem_nil, or_false] at hu
  rcases hu with hu | hu | hu | hu
  · rw [hco e he] at hu
    injection hu with _ h2 _
    omega
  all_goals cases hu

/-- What is left of the fodder: its leading line ends struck. -/
def cutF (es : List El) : List El := es.dropWhile (fun e => e.kind == 0)

/-- The leaf's fodder field, j elements cut off. -/
def RmRel (w : World) (lb lo tl n : Nat) (es : List El) (k : Nat) (wr : World) : Prop :=
  ∃ (j : Nat) (A : Option Addr) (cs : Array Value), k = n - j ∧ j ≤ n ∧ Blk wr lb tl cs ∧ cs[lo]? = some (.slice A (n - j) (n - j)) ∧ Rd wr wr.heap.size A (cellsF (es.drop j)) ∧ cutF es = cutF (es.drop j) ∧ w.grownBy wr (some lb)

set_option maxRecDepth 100000 in
set_option maxHeartbeats 1600000 in
theorem remove_any (w : World) (X L lb : Nat) (hL : isLeaf L) (q T b tl n : Nat) (cs : Array Value) (es : List El) (A : Option Addr) (hS : Spine w X L lb q T b) (hB : Blk w lb tl cs) (hc : cs[leafOff L]? = some (.slice A n n)) (hlen : es.length = n) (hn : n ≤ 65536) (hco : Coms es) (hr : Rd w w.heap.size A (cellsF es)) :
    Calls Try.prog 26 #[.iface T (.pointer (some ⟨b, 0, none⟩))] w fun e w' => e = .returned (.tuple #[]) ∧ ∃ (A' : Option Addr) (cs' : Array Value), Blk w' lb tl cs' ∧ cs'[leafOff L]? = some (.slice A' (cutF es).length (cutF es).length) ∧ Rd w' w'.heap.size A' (cellsF (cutF es)) ∧ w.grownBy w' (some lb) := by
  have HS := Lib.hid hS
  have HL := Lib.hid hL
  have R0 : Hid (RmRel w lb (leafOff L) tl n es n w) := ⟨0, A, cs, by omega, by omega, hB, hc, hr, rfl, World.grownBy.refl w _⟩
  have HN := Lib.hid hlen
  have HCO := Lib.hid hco
  clear hS hL hB hc hlen hr hco
  go_enter Try.func26, Try.ntmps26
  go_wp2_with fail
  refine (openF_any _ _ _ _ HL.out _ _ _ HS.out).mono ?_
  rintro e w1 ⟨rfl, rfl⟩
  generalize hlo : leafOff L = lo at *
  have HLO := Lib.hid hlo
  clear hlo
  go_wp2_with fail
  go_loopg [] n (fun k wr => RmRel w lb lo tl n es k wr)
  case atStart => exact R0
  case round =>
    obtain ⟨j, A1, cs1, hk, hj, hB, hc, hr, hcut, hg⟩ := hrel
    have c0 : wr.cell? ⟨lb, lo, none⟩ = some (.slice A1 (n - j) (n - j)) := by rw [hB.cell]; exact hc
    have f0 := hB.free lo
    have HB := Lib.hid hB
    have HCT := Lib.hid hcut
    have HG := Lib.hid hg
    have HR := Lib.hid hr
    have HCc := Lib.hid hc
    clear hB hc hr hcut hg
    by_cases hz : j < n
    · obtain ⟨e, he⟩ : ∃ e, es[j]? = some e := ⟨es[j]'(by rw [HN.out]; omega), by simp⟩
      have hd0 : (es.drop j)[0]? = some e := by rw [List.getElem?_drop]; exact he
      have HD := Lib.hid (show es.drop j = e :: es.drop (j + 1) from by
        obtain ⟨h1, h2⟩ := List.getElem?_eq_some_iff.1 he
        rw [List.drop_eq_getElem_cons h1, h2])
      obtain ⟨b2, off2, rfl, hb2, _, x1, _, _⟩ := row_at HR.out hd0
      simp only [Nat.zero_mul, Nat.add_zero] at x1
      clear hd0 he
      obtain ⟨m, hm⟩ : ∃ m, n - j = m + 1 := ⟨n - j - 1, by omega⟩
      rw [hm] at c0
      by_cases hk0 : e.kind = 0
      · have HK := Lib.hid hk0
        rw [hk0] at x1
        clear hk0
        have HM := Lib.hid hm
        clear hm
        have HNM := Lib.hid (big_not_mem (es := es.drop (j + 1)) (fun e he => HCO.out e (List.mem_of_mem_drop he)) (some ⟨b2, off2, none⟩) (m + 1) (m + 1) (by omega))
        have HC0 := Lib.hid c0
        have HCU := Lib.hid (show cutF es = cutF (es.drop (j + 1)) by rw [HCT.out, HD.out]; simp [cutF, HK.out])
        have HR1 := Lib.hid (show Rd wr wr.heap.size (some ⟨b2, off2 + 4, none⟩) (cellsF (es.drop (j + 1))) by
          have h4 := HR.out.drop 4
          rw [HD.out, cellsF_cons] at h4
          simpa [El.cells] using h4)
        go_wp2_with fail
        · rename_i hm0
          have hm1 := HM.out
          go_roundg (n - (j + 1))
          case measure => omega
          case rel =>
            refine ⟨j + 1, some ⟨b2, off2, none⟩, _, rfl, by omega, HB.out.set lo _, ?_, .inl ?_, HCU.out, gset HG.out lo _⟩
            · rw [show n - (j + 1) = 0 by omega]
              exact set_get (by rw [HCc.out]; rfl)
            · rw [List.drop_eq_nil_of_le (by rw [HN.out]; omega)]
              rfl
        · rename_i hm0
          have hm1 := HM.out
          go_roundg (n - (j + 1))
          case measure => omega
          case rel =>
            refine ⟨j + 1, some ⟨b2, off2 + 4, none⟩, _, rfl, by omega, HB.out.set lo _, ?_, ?_, HCU.out, gset HG.out lo _⟩
            · rw [show n - (j + 1) = m by omega]
              exact set_get (by rw [HCc.out]; rfl)
            · have h5 := HR1.out.setOther HC0.out HNM.out (.slice (some ⟨b2, off2 + 4, none⟩) m m)
              simpa using h5
      · have t0 : (e.kind == 0) = false := by simpa using hk0
        have HF := Lib.hid (show cutF es = es.drop j by rw [HCT.out, HD.out]; simp [cutF, hk0])
        have HFL := Lib.hid (show (es.drop j).length = n - j by rw [List.length_drop, HN.out])
        have HM := Lib.hid hm
        clear hk0 hm
        go_wp2_with fail
        go_end0
        refine ⟨rfl, some ⟨b2, off2, none⟩, cs1, HB.out, ?_, ?_, HG.out⟩
        · rw [HF.out, HFL.out, HLO.out]
          exact HCc.out
        · rw [HF.out]
          exact HR.out
    · have HF := Lib.hid (show cutF es = es.drop j by
        rw [HCT.out, List.drop_eq_nil_of_le (by rw [HN.out]; omega)]
        rfl)
      have HFL := Lib.hid (show (es.drop j).length = n - j by rw [List.length_drop, HN.out])
      have hz0 : n - j = 0 := by omega
      rw [hz0] at c0
      have HZ0 := Lib.hid hz0
      clear hz0
      go_wp2_with fail
      go_end0
      refine ⟨rfl, A1, cs1, HB.out, ?_, ?_, HG.out⟩
      · rw [HF.out, HFL.out, HLO.out]
        exact HCc.out
      · rw [HF.out]
        exact HR.out
end Go.Proofs.Ytginajepkfndoaa
