/- runSortGroup: the pairs behind sortGroup. -/
import Derived.Test.YtlbiknodipcnbaaSg
import Derived.Test.YtlbiknodipcnbaaAux
import Derived.Deep.RegionHeld3
namespace Go.Proofs.Ytlbiknodipcnbaa
open Go.RowKit
set_option linter.unusedVariables false

def mkI (p : PE) : IE := ⟨none, 0, 0, p.k, none, 0, 0, none, p.v⟩
theorem infI : (Try.prog.info? 44).map (fun i => (i.zero, i.size, i.bytes)) = some (some (.agg #[.slice none 0 0, .string ⟨#[]⟩, .slice none 0 0, .nilIface, .slice none 0 0, .string ⟨#[]⟩, .slice none 0 0, .pointer none, .pointer none, .string ⟨#[]⟩, .int .i64 0, .int .i64 0, .int .i64 0, .int .i64 0]), 14, 208) := by kernel_rfl
theorem infI_parts : ∃ i0, Try.prog.info? 44 = some i0 ∧ i0.zero = some (.agg #[.slice none 0 0, .string ⟨#[]⟩, .slice none 0 0, .nilIface, .slice none 0 0, .string ⟨#[]⟩, .slice none 0 0, .pointer none, .pointer none, .string ⟨#[]⟩, .int .i64 0, .int .i64 0, .int .i64 0, .int .i64 0]) ∧ i0.size = 14 ∧ i0.bytes = 208 := by
  have h := infI
  cases hq : Try.prog.info? 44 with
  | none => rw [hq] at h; cases h
  | some i0 =>
    rw [hq] at h
    simp only [Option.map_some, Option.some.injEq, Prod.mk.injEq] at h
    exact ⟨i0, rfl, h.1, h.2.1, h.2.2⟩
def zI : List Value := [.slice none 0 0, .string ⟨#[]⟩, .slice none 0 0, .nilIface, .slice none 0 0, .string ⟨#[]⟩, .slice none 0 0, .pointer none, .pointer none, .string ⟨#[]⟩, .int .i64 0, .int .i64 0, .int .i64 0, .int .i64 0]
theorem rowsP_cells {α : Type} (f : α → List Value) (z : List Value) (l : List α) (n : Nat) : (rowsP f z l n).flatten = l.flatMap f ++ (List.replicate (n - l.length) z).flatten := by
  unfold rowsP
  rw [List.flatten_append]
  rfl
theorem setCells_blk {g : Nat} {t : TypeId} : ∀ (vs : List Value) (o : Nat) (w : World) (L : List Value), o + vs.length ≤ L.length → Blk w g t L.toArray → Blk (w.setCells g o vs) g t (L.take o ++ (vs ++ L.drop (o + vs.length))).toArray
  | [], o, w, L, _, h => by simpa [World.setCells] using h
  | v :: r, o, w, L, hl, h => by
    have hs := h.set o v
    rw [List.setIfInBounds_toArray] at hs
    simp only [List.length_cons] at hl
    have ih := setCells_blk r (o + 1) (w.setCell ⟨g, o, none⟩ v) (L.set o v) (by simp; omega) hs
    have e : (L.set o v).take (o + 1) ++ (r ++ (L.set o v).drop (o + 1 + r.length)) = L.take o ++ ((v :: r) ++ L.drop (o + (v :: r).length)) := by
      rw [List.take_add_one, List.getElem?_set_self (by omega), List.take_set_of_le (Nat.le_refl o), List.drop_set_of_lt (by omega), List.length_cons, show o + 1 + r.length = o + (r.length + 1) by omega]
      simp
    rw [e] at ih
    exact ih
theorem row14_set {w : World} {g n k : Nat} {l : List IE} (h : Blk w g 44 (rowsP IE.cells zI l n).flatten.toArray) (hl : l.length = k) (hk : k < n) (p : IE) :
    Blk (w.setCells g (k * 14) p.cells) g 44 (rowsP IE.cells zI (l ++ [p]) n).flatten.toArray := by
  rw [rowsP_cells] at h
  have hlen : (l.flatMap IE.cells).length = k * 14 := by rw [← hl]; exact cellsI_len l
  have hz : (List.replicate (n - l.length) zI).flatten = zI ++ (List.replicate (n - (l.length + 1)) zI).flatten := by
    rw [show n - l.length = (n - (l.length + 1)) + 1 by omega, List.replicate_succ, List.flatten_cons]
  have := setCells_blk p.cells (k * 14) w _ (by rw [List.length_append, hlen, hz, List.length_append]; show k * 14 + 14 ≤ k * 14 + (14 + _); omega) h
  rw [rowsP_cells]
  have e : (l.flatMap IE.cells ++ (List.replicate (n - l.length) zI).flatten).take (k * 14) ++ (p.cells ++ (l.flatMap IE.cells ++ (List.replicate (n - l.length) zI).flatten).drop (k * 14 + p.cells.length)) = (l ++ [p]).flatMap IE.cells ++ (List.replicate (n - (l ++ [p]).length) zI).flatten := by
    rw [← hlen, List.take_left, hz, List.drop_append, List.drop_eq_nil_of_le (by omega), show (l.flatMap IE.cells).length + p.cells.length - (l.flatMap IE.cells).length = zI.length from by rw [Nat.add_sub_cancel_left]; rfl, List.drop_left, List.flatMap_append, List.length_append]
    simp
  rw [e] at this
  exact this
theorem row14_at {w : World} {g n k : Nat} {l : List IE} (h : Blk w g 44 (rowsP IE.cells zI l n).flatten.toArray) (hl : l.length = k) (hk : k < n) (j : Nat) (hj : j < 14) : w.cell? ⟨g, k * 14 + j, none⟩ = zI[j]? := by
  rw [h.cell, List.getElem?_toArray, flatten_at 14 _ (rowsP_len IE.cells zI 14 (fun _ => rfl) rfl l n) k j zI (rowsP_at IE.cells zI l n k hl hk) hj]

def MadeI (w : World) (k v : ByteArray) (e : Ending) (w' : World) : Prop := e = .returned (.agg #[.slice none 0 0, .string k, .slice none 0 0, .nilIface, .slice none 0 0, .string v, .slice none 0 0, .pointer none, .pointer none, .string ⟨#[]⟩, .int .i64 0, .int .i64 0, .int .i64 0, .int .i64 0]) ∧ Below w.heap.size w w'
set_option maxRecDepth 100000 in
set_option maxHeartbeats 1600000 in
theorem new13 (w : World) (k v : ByteArray) : Calls Try.prog 13 #[.string k, .string v] w (MadeI w k v) := by
  have HB := Lib.hid (Blk.new w 44 #[.slice none 0 0, .string k, .slice none 0 0, .nilIface, .slice none 0 0, .string v, .slice none 0 0, .pointer none, .pointer none, .string ⟨#[]⟩, .int .i64 0, .int .i64 0, .int .i64 0, .int .i64 0])
  have HL := Lib.hid ((Below.refl w.heap.size w).alloc (Nat.le_refl _) (.cells #[.slice none 0 0, .string k, .slice none 0 0, .nilIface, .slice none 0 0, .string v, .slice none 0 0, .pointer none, .pointer none, .string ⟨#[]⟩, .int .i64 0, .int .i64 0, .int .i64 0, .int .i64 0] 44))
  go_enter Try.func13, Try.ntmps13
  go_wp2_with fail
  (try simp only [Exit.inBlock, Exit.then])
  refine bodyPost_ret (results_cell_row rfl _ _ w.heap.size 44 _ (0, 0) _ rfl HB.out Try.underlying44 rfl (by kernel_rfl)) rfl ?_
  exact ⟨rfl, HL.out⟩
def IsS (w : World) (s : ByteArray) (e : Ending) (w' : World) : Prop := e = .returned (.string s) ∧ Below w.heap.size w w'
set_option maxRecDepth 100000 in
theorem key15 (w : World) (p : PE) : Calls Try.prog 15 #[.agg #[.slice none 0 0, .string p.k, .slice none 0 0, .nilIface, .slice none 0 0, .string p.v, .slice none 0 0, .pointer none, .pointer none, .string ⟨#[]⟩, .int .i64 0, .int .i64 0, .int .i64 0, .int .i64 0]] w (IsS w p.k) := by
  have HL := Lib.hid ((Below.refl w.heap.size w).alloc (Nat.le_refl _) (.cells #[.slice none 0 0, .string p.k, .slice none 0 0, .nilIface, .slice none 0 0, .string p.v, .slice none 0 0, .pointer none, .pointer none, .string ⟨#[]⟩, .int .i64 0, .int .i64 0, .int .i64 0, .int .i64 0] 44))
  unfold IsS
  go_enter Try.func15, Try.ntmps15
  go_wp2_with fail
  go_ret
  exact ⟨rfl, HL.out⟩
set_option maxRecDepth 100000 in
theorem var16 (w : World) (p : PE) : Calls Try.prog 16 #[.agg #[.slice none 0 0, .string p.k, .slice none 0 0, .nilIface, .slice none 0 0, .string p.v, .slice none 0 0, .pointer none, .pointer none, .string ⟨#[]⟩, .int .i64 0, .int .i64 0, .int .i64 0, .int .i64 0]] w (IsS w p.v) := by
  have HL := Lib.hid ((Below.refl w.heap.size w).alloc (Nat.le_refl _) (.cells #[.slice none 0 0, .string p.k, .slice none 0 0, .nilIface, .slice none 0 0, .string p.v, .slice none 0 0, .pointer none, .pointer none, .string ⟨#[]⟩, .int .i64 0, .int .i64 0, .int .i64 0, .int .i64 0] 44))
  unfold IsS
  go_enter Try.func16, Try.ntmps16
  go_wp2_with fail
  go_ret
  exact ⟨rfl, HL.out⟩
set_option maxRecDepth 100000 in
theorem group14 (w : World) (g n c : Nat) (es : List IE) (rest : List Value) (hB : Blk w g 44 (cellsI es ++ rest).toArray) (hl : es.length = n) (hn : n ≤ 65536) (hs : ∀ e ∈ es, e.var.size ≤ maxLen) :
    Calls Try.prog 14 #[.slice (some ⟨g, 0, none⟩) n c] w (GroupD w g es rest) := by
  have K := Lib.hid (group18 w g n c es rest hB hl hn hs)
  clear hB
  go_enter Try.func14, Try.ntmps14
  go_wp2_with fail
  refine K.out.mono ?_
  rintro e w1 ⟨es', rfl, h1, h2, h3, h4⟩
  have H := Lib.hid (And.intro h1 (And.intro h2 (And.intro h3 h4)))
  clear h1 h2 h3 h4
  go_wp2_with fail
  go_end0
  exact ⟨es', rfl, H.out.1, H.out.2.1, H.out.2.2.1, H.out.2.2.2⟩
theorem perm_mk {es : List IE} {ps : List PE} (h : es.Perm (ps.map mkI)) : ∃ qs : List PE, es = qs.map mkI ∧ qs.Perm ps := by
  refine ⟨es.map fun e => ⟨e.key, e.var⟩, ?_, ?_⟩
  · rw [List.map_map]
    refine ((List.map_congr_left (f := mkI ∘ fun e : IE => (⟨e.key, e.var⟩ : PE)) (g := id) fun e he => ?_).trans (List.map_id es)).symm
    obtain ⟨p, hp, rfl⟩ := List.mem_map.1 (h.mem_iff.1 he)
    rfl
  · have := h.map fun e => (⟨e.key, e.var⟩ : PE)
    rw [List.map_map] at this
    have e : (fun e : IE => (⟨e.key, e.var⟩ : PE)) ∘ mkI = id := by funext p; rfl
    rw [e, List.map_id] at this
    exact this
/-- What runSortGroup gives. -/
def RunR (w : World) (n : Nat) (ps : List PE) (e : Ending) (w' : World) : Prop :=
  ∃ G g, e = .returned (.slice (some ⟨g, 0, none⟩) n n) ∧ Blk w' g 28 (cellsP G).toArray ∧ ((ps.map PE.v).Nodup → G.Perm ps ∧ G.Pairwise (fun x y => ltS y.k x.k = false)) ∧ (¬ (ps.map PE.v).Nodup → G = ps) ∧ w.heap.size ≤ g ∧ Below w.heap.size w w'

set_option maxRecDepth 100000 in
set_option maxHeartbeats 12800000 in
theorem run7 (w : World) (a : Option Addr) (n c : Nat) (ps : List PE) (h : IsPs w a n c ps) (hn : n ≤ 32768) : Calls Try.prog 7 #[.slice a n c] w (RunR w n ps) := by
  have hmI : ∀ W, (Instr.makeSlice 29 (.int .i64 n) (.int .i64 n)).run Try.prog W = .ok (.slice (some ⟨W.heap.size, 0, none⟩) n n) (W.alloc (.cells (rowsP IE.cells zI [] n).flatten.toArray 44)) := by
    obtain ⟨i0, hi, hz0, hz1, hz2⟩ := infI_parts
    intro W
    have := run_make_n (P := Try.prog) 29 44 i0 _ Try.underlying29 hi hz0 .i64 .i64 n n (Nat.le_refl _) (by rw [hz2]; omega) (by omega) W
    rw [hz1, show (Value.agg #[.slice none 0 0, .string ⟨#[]⟩, .slice none 0 0, .nilIface, .slice none 0 0, .string ⟨#[]⟩, .slice none 0 0, .pointer none, .pointer none, .string ⟨#[]⟩, .int .i64 0, .int .i64 0, .int .i64 0, .int .i64 0]).cells = zI.toArray by simp [Value.cells, zI], made_rowsP IE.cells zI 14 n rfl (by decide)] at this
    exact this
  have hmP : ∀ W, (Instr.makeSlice 22 (.int .i64 n) (.int .i64 n)).run Try.prog W = .ok (.slice (some ⟨W.heap.size, 0, none⟩) n n) (W.alloc (.cells (rowsP PE.cells zP [] n).flatten.toArray 28)) := by
    obtain ⟨i0, hi, hz0, hz1, hz2⟩ := infP_parts
    intro W
    have := run_make_n (P := Try.prog) 22 28 i0 _ Try.underlying22 hi hz0 .i64 .i64 n n (Nat.le_refl _) (by rw [hz2]; omega) (by omega) W
    rw [hz1, show (Value.agg #[.string ⟨#[]⟩, .string ⟨#[]⟩]).cells = zP.toArray by simp [Value.cells, zP], made_rowsP PE.cells zP 2 n rfl (by decide)] at this
    exact this
  generalize hC0 : (rowsP IE.cells zI [] n).flatten.toArray = C0 at hmI
  generalize hC1 : (rowsP PE.cells zP [] n).flatten.toArray = C1 at hmP
  have HC0 := Lib.hid hC0
  have HC1 := Lib.hid hC1
  have H := Lib.hid h
  have HMP := Lib.hid hmP
  clear hC0 hC1 h hmP
  go_enter Try.func7, Try.ntmps7
  go_wp2_with fail
  go_loopw [4] (fun i wr => ∃ k : Nat, k ≤ n ∧ i = .int .i64 k ∧ Hid (Blk wr w.heap.size 44 (rowsP IE.cells zI ((ps.take k).map mkI) n).flatten.toArray) ∧ Hid (Below w.heap.size w wr)) (fun i _ => n - (intOf i).toNat)
  case atStart => exact ⟨0, Nat.zero_le _, rfl, Lib.hid (by rw [List.take_zero, List.map_nil, HC0.out]; exact Blk.new w 44 C0), Lib.hid ((Below.refl _ _).alloc (Nat.le_refl _) _)⟩
  case round =>
    clear hmI
    obtain ⟨k, hk, rfl, hblk, hbel⟩ := hrel
    by_cases hlt : k < n
    · obtain ⟨p, hp⟩ : ∃ p, ps[k]? = some p := ⟨ps[k]'(by rw [H.out.1]; exact hlt), by simp⟩
      obtain ⟨b, off, ha, hb, x0, x1⟩ := IsPs.at (H.out.2.2.2.2.2.below hbel.out) hp
      subst ha
      have hbw : b < wr.heap.size := Nat.lt_of_lt_of_le hb hbel.out.size
      have hlk : ((ps.take k).map mkI).length = k := by rw [List.length_map, List.length_take, H.out.1]; omega
      have HLK := Lib.hid hlk
      have HTK : Hid (((ps.take (k + 1)).map mkI) = ((ps.take k).map mkI) ++ [mkI p]) := Lib.hid (by rw [List.take_add_one, hp, List.map_append]; rfl)
      have KN := Lib.hid (fun W => new13 W p.k p.v)
      have hne : b ≠ w.heap.size := by omega
      have x0d : wr.drew.cell? ⟨b, off + k * 2, none⟩ = some (.string p.k) := x0
      have x1d : wr.drew.cell? ⟨b, off + k * 2 + 1, none⟩ = some (.string p.v) := x1
      have gl := hblk.out.lt
      clear hp hlk
      go_wp2_with fail
      go_region_held3 (fun w' => w'.cell? ⟨b, off + k * 2, none⟩ = some (.string p.k) ∧ w'.cell? ⟨b, off + k * 2 + 1, none⟩ = some (.string p.v)) (first | with_reducible exact ⟨x0d, x1d⟩ | with_reducible exact ⟨z0, z1⟩ | exact ⟨(cell_far hne (cell_far hne (cell_far hne (cell_far hne (cell_far hne (cell_far hne (cell_far hne (cell_far hne (cell_far hne (cell_far hne (cell_far hne (cell_far hne (cell_far hne (cell_far hne z0)))))))))))))), (cell_far hne (cell_far hne (cell_far hne (cell_far hne (cell_far hne (cell_far hne (cell_far hne (cell_far hne (cell_far hne (cell_far hne (cell_far hne (cell_far hne (cell_far hne (cell_far hne z1))))))))))))))⟩) (first | (go_at_call 13; refine (KN.out _).mono ?_; rintro e w2 ⟨rfl, hb2⟩; have z0 := (hb2.cell (p := ⟨b, off + k * 2, none⟩) hbw).trans x0; have z1 := (hb2.cell (p := ⟨b, off + k * 2 + 1, none⟩) hbw).trans x1; have N2 := hblk.out.drew.under hb2; have gl2 := N2.lt; have q0 := row14_at N2 HLK.out hlt 0 (by omega); have f0 := N2.free (k * 14); have q1 := row14_at N2 HLK.out hlt 1 (by omega); have f1 := N2.free (k * 14 + 1); have q2 := row14_at N2 HLK.out hlt 2 (by omega); have f2 := N2.free (k * 14 + 2); have q3 := row14_at N2 HLK.out hlt 3 (by omega); have f3 := N2.free (k * 14 + 3); have q4 := row14_at N2 HLK.out hlt 4 (by omega); have f4 := N2.free (k * 14 + 4); have q5 := row14_at N2 HLK.out hlt 5 (by omega); have f5 := N2.free (k * 14 + 5); have q6 := row14_at N2 HLK.out hlt 6 (by omega); have f6 := N2.free (k * 14 + 6); have q7 := row14_at N2 HLK.out hlt 7 (by omega); have f7 := N2.free (k * 14 + 7); have q8 := row14_at N2 HLK.out hlt 8 (by omega); have f8 := N2.free (k * 14 + 8); have q9 := row14_at N2 HLK.out hlt 9 (by omega); have f9 := N2.free (k * 14 + 9); have q10 := row14_at N2 HLK.out hlt 10 (by omega); have f10 := N2.free (k * 14 + 10); have q11 := row14_at N2 HLK.out hlt 11 (by omega); have f11 := N2.free (k * 14 + 11); have q12 := row14_at N2 HLK.out hlt 12 (by omega); have f12 := N2.free (k * 14 + 12); have q13 := row14_at N2 HLK.out hlt 13 (by omega); have f13 := N2.free (k * 14 + 13); rw [Nat.add_zero] at q0; simp only [zI, List.getElem?_cons_zero, List.getElem?_cons_succ] at q0 q1 q2 q3 q4 q5 q6 q7 q8 q9 q10 q11 q12 q13; have HN2 := Lib.hid N2; have HB2 := Lib.hid hb2; clear hb2 N2))
      have HST := Lib.hid (show Blk (((((((((((((((w2).setCell ⟨w.heap.size, k * 14, none⟩ (.slice none 0 0)).setCell ⟨w.heap.size, k * 14 + 1, none⟩ (.string p.k)).setCell ⟨w.heap.size, k * 14 + 2, none⟩ (.slice none 0 0)).setCell ⟨w.heap.size, k * 14 + 3, none⟩ (.nilIface)).setCell ⟨w.heap.size, k * 14 + 4, none⟩ (.slice none 0 0)).setCell ⟨w.heap.size, k * 14 + 5, none⟩ (.string p.v)).setCell ⟨w.heap.size, k * 14 + 6, none⟩ (.slice none 0 0)).setCell ⟨w.heap.size, k * 14 + 7, none⟩ (.pointer none)).setCell ⟨w.heap.size, k * 14 + 8, none⟩ (.pointer none)).setCell ⟨w.heap.size, k * 14 + 9, none⟩ (.string ⟨#[]⟩)).setCell ⟨w.heap.size, k * 14 + 10, none⟩ (.int .i64 0)).setCell ⟨w.heap.size, k * 14 + 11, none⟩ (.int .i64 0)).setCell ⟨w.heap.size, k * 14 + 12, none⟩ (.int .i64 0)).setCell ⟨w.heap.size, k * 14 + 13, none⟩ (.int .i64 0)) w.heap.size 44 (rowsP IE.cells zI ((ps.take (k + 1)).map mkI) n).flatten.toArray by rw [HTK.out]; exact row14_set HN2.out HLK.out hlt (mkI p))
      have hs2 := HB2.out.size
      have hs2' : wr.heap.size ≤ w2.heap.size := hs2
      have BST := Lib.hid ((((((((((((((((hbel.out.drew.trans (HB2.out.mono (by show w.heap.size ≤ wr.heap.size; omega))).setCell (p := ⟨w.heap.size, k * 14, none⟩) (Nat.le_refl _) (.slice none 0 0)).setCell (p := ⟨w.heap.size, k * 14 + 1, none⟩) (Nat.le_refl _) (.string p.k)).setCell (p := ⟨w.heap.size, k * 14 + 2, none⟩) (Nat.le_refl _) (.slice none 0 0)).setCell (p := ⟨w.heap.size, k * 14 + 3, none⟩) (Nat.le_refl _) (.nilIface)).setCell (p := ⟨w.heap.size, k * 14 + 4, none⟩) (Nat.le_refl _) (.slice none 0 0)).setCell (p := ⟨w.heap.size, k * 14 + 5, none⟩) (Nat.le_refl _) (.string p.v)).setCell (p := ⟨w.heap.size, k * 14 + 6, none⟩) (Nat.le_refl _) (.slice none 0 0)).setCell (p := ⟨w.heap.size, k * 14 + 7, none⟩) (Nat.le_refl _) (.pointer none)).setCell (p := ⟨w.heap.size, k * 14 + 8, none⟩) (Nat.le_refl _) (.pointer none)).setCell (p := ⟨w.heap.size, k * 14 + 9, none⟩) (Nat.le_refl _) (.string ⟨#[]⟩)).setCell (p := ⟨w.heap.size, k * 14 + 10, none⟩) (Nat.le_refl _) (.int .i64 0)).setCell (p := ⟨w.heap.size, k * 14 + 11, none⟩) (Nat.le_refl _) (.int .i64 0)).setCell (p := ⟨w.heap.size, k * 14 + 12, none⟩) (Nat.le_refl _) (.int .i64 0)).setCell (p := ⟨w.heap.size, k * 14 + 13, none⟩) (Nat.le_refl _) (.int .i64 0)))
      clear q0 f0 q1 f1 q2 f2 q3 f3 q4 f4 q5 f5 q6 f6 q7 f7 q8 f8 q9 f9 q10 f10 q11 f11 q12 f12 q13 f13 x0 x1 x0d x1d z0 z1 HN2 HLK HTK hblk hbel
      go_wp2_with fail
      go_roundw
      case rel => exact ⟨k + 1, by omega, by go_num, HST, BST⟩
      case measure => simp [intOf]; omega
    · obtain rfl : k = n := by omega
      have hfull := hblk.out
      rw [List.take_of_length_le (by rw [H.out.1]; exact Nat.le_refl _), rowsP_full _ _ _ _ (by rw [List.length_map, H.out.1])] at hfull
      have KG := Lib.hid (group14 wr w.heap.size k k (ps.map mkI) [] (by rw [List.append_nil]; exact hfull) (by rw [List.length_map, H.out.1]) (by omega) (fun e he => by
        obtain ⟨p, hp, rfl⟩ := List.mem_map.1 he
        exact (H.out.2.2.2.2.1 p hp).2))
      have hgw := hfull.lt
      clear hfull hblk
      go_wp2_with fail
      refine KG.out.mono ?_
      rintro e w2 ⟨es', rfl, h1, h2, h3, h4⟩
      rw [List.append_nil] at h1
      have hvar : (ps.map mkI).map IE.var = ps.map PE.v := by rw [List.map_map]; rfl
      rw [hvar] at h3 h4
      have hqs : ∃ qs : List PE, es' = qs.map mkI ∧ qs.length = k ∧ ((ps.map PE.v).Nodup → qs.Perm ps ∧ qs.Pairwise (fun x y => ltS y.k x.k = false)) ∧ (¬ (ps.map PE.v).Nodup → qs = ps) := by
        by_cases hnd : (ps.map PE.v).Nodup
        · obtain ⟨hp, hso⟩ := h3 hnd
          obtain ⟨qs, rfl, hq⟩ := perm_mk hp
          refine ⟨qs, rfl, by rw [hq.length_eq, H.out.1], fun _ => ⟨hq, ?_⟩, fun h => absurd hnd h⟩
          exact List.pairwise_map.1 hso
        · have := h4 hnd
          exact ⟨ps, this, H.out.1, fun h => absurd h hnd, fun _ => rfl⟩
      obtain ⟨qs, rfl, hql, hqp, hqq⟩ := hqs
      have HQL := Lib.hid hql
      have HQP := Lib.hid hqp
      have HQQ := Lib.hid hqq
      have HB1 := Lib.hid h1
      have HF := Lib.hid h2
      have hgl2 := h1.lt
      have hsz2 := h2.size
      have BW := Lib.hid (Fr.below hbel.out h2 hbel.out.size (fun b hb => by rw [hb]; exact Nat.le_refl _))
      have hmp := HMP.out
      clear h1 h2 h3 h4 hql hqp hqq KG hvar HMP
      go_wp2_with fail
      go_loopw [6] (fun i wr => ∃ q : Nat, q ≤ k ∧ i = .int .i64 q ∧ Hid (Blk wr w2.heap.size 28 (rowsP PE.cells zP (qs.take q) k).flatten.toArray) ∧ Hid (Below w2.heap.size w2 wr)) (fun i _ => k - (intOf i).toNat)
      case atStart => exact ⟨0, Nat.zero_le _, rfl, Lib.hid (by rw [List.take_zero, HC1.out]; exact Blk.new w2 28 C1), Lib.hid ((Below.refl _ _).alloc (Nat.le_refl _) _)⟩
      case round =>
        rename_i wx
        clear hmp
        obtain ⟨q, hq, rfl, hblk, hbel⟩ := hrel
        by_cases hlt2 : q < k
        · obtain ⟨p, hp⟩ : ∃ p, qs[q]? = some p := ⟨qs[q]'(by rw [HQL.out]; exact hlt2), by simp⟩
          have hlk : (qs.take q).length = q := by rw [List.length_take, HQL.out]; omega
          have HLK := Lib.hid hlk
          have HTK : Hid (qs.take (q + 1) = qs.take q ++ [p]) := Lib.hid (by rw [List.take_add_one, hp]; rfl)
          have hBr : Blk wr w.heap.size 44 (cellsI (qs.map mkI) ++ []).toArray := by rw [List.append_nil]; exact HB1.out.under hbel.out
          have hmk : (qs.map mkI)[q]? = some (mkI p) := by rw [List.getElem?_map, hp]; rfl
          have hgr := hBr.lt
          have gl := hblk.out.lt
          have y0 := rowI_at hBr hmk 0 (by omega)
          have y1 := rowI_at hBr hmk 1 (by omega)
          have y2 := rowI_at hBr hmk 2 (by omega)
          have y3 := rowI_at hBr hmk 3 (by omega)
          have y4 := rowI_at hBr hmk 4 (by omega)
          have y5 := rowI_at hBr hmk 5 (by omega)
          have y6 := rowI_at hBr hmk 6 (by omega)
          have y7 := rowI_at hBr hmk 7 (by omega)
          have y8 := rowI_at hBr hmk 8 (by omega)
          have y9 := rowI_at hBr hmk 9 (by omega)
          have y10 := rowI_at hBr hmk 10 (by omega)
          have y11 := rowI_at hBr hmk 11 (by omega)
          have y12 := rowI_at hBr hmk 12 (by omega)
          have y13 := rowI_at hBr hmk 13 (by omega)
          rw [Nat.add_zero] at y0
          simp only [mkI, IE.cells, bvOf, List.getElem?_cons_zero, List.getElem?_cons_succ] at y0 y1 y2 y3 y4 y5 y6 y7 y8 y9 y10 y11 y12 y13
          have y0d : wr.drew.cell? ⟨w.heap.size, q * 14, none⟩ = some (.slice none 0 0) := y0
          have y1d : wr.drew.cell? ⟨w.heap.size, q * 14 + 1, none⟩ = some (.string p.k) := y1
          have y2d : wr.drew.cell? ⟨w.heap.size, q * 14 + 2, none⟩ = some (.slice none 0 0) := y2
          have y3d : wr.drew.cell? ⟨w.heap.size, q * 14 + 3, none⟩ = some (.nilIface) := y3
          have y4d : wr.drew.cell? ⟨w.heap.size, q * 14 + 4, none⟩ = some (.slice none 0 0) := y4
          have y5d : wr.drew.cell? ⟨w.heap.size, q * 14 + 5, none⟩ = some (.string p.v) := y5
          have y6d : wr.drew.cell? ⟨w.heap.size, q * 14 + 6, none⟩ = some (.slice none 0 0) := y6
          have y7d : wr.drew.cell? ⟨w.heap.size, q * 14 + 7, none⟩ = some (.pointer none) := y7
          have y8d : wr.drew.cell? ⟨w.heap.size, q * 14 + 8, none⟩ = some (.pointer none) := y8
          have y9d : wr.drew.cell? ⟨w.heap.size, q * 14 + 9, none⟩ = some (.string ⟨#[]⟩) := y9
          have y10d : wr.drew.cell? ⟨w.heap.size, q * 14 + 10, none⟩ = some (.int .i64 0) := y10
          have y11d : wr.drew.cell? ⟨w.heap.size, q * 14 + 11, none⟩ = some (.int .i64 0) := y11
          have y12d : wr.drew.cell? ⟨w.heap.size, q * 14 + 12, none⟩ = some (.int .i64 0) := y12
          have y13d : wr.drew.cell? ⟨w.heap.size, q * 14 + 13, none⟩ = some (.int .i64 0) := y13
          have hgrd : w.heap.size < wr.drew.heap.size := hgr
          have hbd : Hid (Blk wr.drew w2.heap.size 28 (rowsP PE.cells zP (qs.take q) k).flatten.toArray) := Lib.hid hblk.out.drew
          have hed : Hid (Below w2.heap.size w2 wr.drew) := Lib.hid hbel.out.drew
          have hw2d : w2.heap.size ≤ wr.drew.heap.size := hbel.out.size
          have K15 := Lib.hid (fun W => key15 W p)
          have K16 := Lib.hid (fun W => var16 W p)
          have hne : w.heap.size ≠ w2.heap.size := by omega
          have HPP := Lib.hid hp
          clear hp hlk hBr hmk
          go_wp2_with fail
          go_region_held3 (fun w' => w'.cell? ⟨w.heap.size, q * 14, none⟩ = some (.slice none 0 0) ∧ w'.cell? ⟨w.heap.size, q * 14 + 1, none⟩ = some (.string p.k) ∧ w'.cell? ⟨w.heap.size, q * 14 + 2, none⟩ = some (.slice none 0 0) ∧ w'.cell? ⟨w.heap.size, q * 14 + 3, none⟩ = some (.nilIface) ∧ w'.cell? ⟨w.heap.size, q * 14 + 4, none⟩ = some (.slice none 0 0) ∧ w'.cell? ⟨w.heap.size, q * 14 + 5, none⟩ = some (.string p.v) ∧ w'.cell? ⟨w.heap.size, q * 14 + 6, none⟩ = some (.slice none 0 0) ∧ w'.cell? ⟨w.heap.size, q * 14 + 7, none⟩ = some (.pointer none) ∧ w'.cell? ⟨w.heap.size, q * 14 + 8, none⟩ = some (.pointer none) ∧ w'.cell? ⟨w.heap.size, q * 14 + 9, none⟩ = some (.string ⟨#[]⟩) ∧ w'.cell? ⟨w.heap.size, q * 14 + 10, none⟩ = some (.int .i64 0) ∧ w'.cell? ⟨w.heap.size, q * 14 + 11, none⟩ = some (.int .i64 0) ∧ w'.cell? ⟨w.heap.size, q * 14 + 12, none⟩ = some (.int .i64 0) ∧ w'.cell? ⟨w.heap.size, q * 14 + 13, none⟩ = some (.int .i64 0)) (first | with_reducible exact ⟨y0d, y1d, y2d, y3d, y4d, y5d, y6d, y7d, y8d, y9d, y10d, y11d, y12d, y13d⟩ | with_reducible exact ⟨z0, z1, z2, z3, z4, z5, z6, z7, z8, z9, z10, z11, z12, z13⟩ | exact ⟨cell_far hne (cell_far hne z0), cell_far hne (cell_far hne z1), cell_far hne (cell_far hne z2), cell_far hne (cell_far hne z3), cell_far hne (cell_far hne z4), cell_far hne (cell_far hne z5), cell_far hne (cell_far hne z6), cell_far hne (cell_far hne z7), cell_far hne (cell_far hne z8), cell_far hne (cell_far hne z9), cell_far hne (cell_far hne z10), cell_far hne (cell_far hne z11), cell_far hne (cell_far hne z12), cell_far hne (cell_far hne z13)⟩) (first | (go_at_call 15; refine (K15.out _).mono ?_; rintro e W ⟨rfl, hb⟩; have z0 : W.cell? ⟨w.heap.size, q * 14, none⟩ = some (.slice none 0 0) := (by first | with_reducible exact (hb.cell (p := ⟨w.heap.size, q * 14, none⟩) hgrd).trans y0d | with_reducible exact (hb.cell (p := ⟨w.heap.size, q * 14, none⟩) hgz).trans z0); have z1 : W.cell? ⟨w.heap.size, q * 14 + 1, none⟩ = some (.string p.k) := (by first | with_reducible exact (hb.cell (p := ⟨w.heap.size, q * 14 + 1, none⟩) hgrd).trans y1d | with_reducible exact (hb.cell (p := ⟨w.heap.size, q * 14 + 1, none⟩) hgz).trans z1); have z2 : W.cell? ⟨w.heap.size, q * 14 + 2, none⟩ = some (.slice none 0 0) := (by first | with_reducible exact (hb.cell (p := ⟨w.heap.size, q * 14 + 2, none⟩) hgrd).trans y2d | with_reducible exact (hb.cell (p := ⟨w.heap.size, q * 14 + 2, none⟩) hgz).trans z2); have z3 : W.cell? ⟨w.heap.size, q * 14 + 3, none⟩ = some (.nilIface) := (by first | with_reducible exact (hb.cell (p := ⟨w.heap.size, q * 14 + 3, none⟩) hgrd).trans y3d | with_reducible exact (hb.cell (p := ⟨w.heap.size, q * 14 + 3, none⟩) hgz).trans z3); have z4 : W.cell? ⟨w.heap.size, q * 14 + 4, none⟩ = some (.slice none 0 0) := (by first | with_reducible exact (hb.cell (p := ⟨w.heap.size, q * 14 + 4, none⟩) hgrd).trans y4d | with_reducible exact (hb.cell (p := ⟨w.heap.size, q * 14 + 4, none⟩) hgz).trans z4); have z5 : W.cell? ⟨w.heap.size, q * 14 + 5, none⟩ = some (.string p.v) := (by first | with_reducible exact (hb.cell (p := ⟨w.heap.size, q * 14 + 5, none⟩) hgrd).trans y5d | with_reducible exact (hb.cell (p := ⟨w.heap.size, q * 14 + 5, none⟩) hgz).trans z5); have z6 : W.cell? ⟨w.heap.size, q * 14 + 6, none⟩ = some (.slice none 0 0) := (by first | with_reducible exact (hb.cell (p := ⟨w.heap.size, q * 14 + 6, none⟩) hgrd).trans y6d | with_reducible exact (hb.cell (p := ⟨w.heap.size, q * 14 + 6, none⟩) hgz).trans z6); have z7 : W.cell? ⟨w.heap.size, q * 14 + 7, none⟩ = some (.pointer none) := (by first | with_reducible exact (hb.cell (p := ⟨w.heap.size, q * 14 + 7, none⟩) hgrd).trans y7d | with_reducible exact (hb.cell (p := ⟨w.heap.size, q * 14 + 7, none⟩) hgz).trans z7); have z8 : W.cell? ⟨w.heap.size, q * 14 + 8, none⟩ = some (.pointer none) := (by first | with_reducible exact (hb.cell (p := ⟨w.heap.size, q * 14 + 8, none⟩) hgrd).trans y8d | with_reducible exact (hb.cell (p := ⟨w.heap.size, q * 14 + 8, none⟩) hgz).trans z8); have z9 : W.cell? ⟨w.heap.size, q * 14 + 9, none⟩ = some (.string ⟨#[]⟩) := (by first | with_reducible exact (hb.cell (p := ⟨w.heap.size, q * 14 + 9, none⟩) hgrd).trans y9d | with_reducible exact (hb.cell (p := ⟨w.heap.size, q * 14 + 9, none⟩) hgz).trans z9); have z10 : W.cell? ⟨w.heap.size, q * 14 + 10, none⟩ = some (.int .i64 0) := (by first | with_reducible exact (hb.cell (p := ⟨w.heap.size, q * 14 + 10, none⟩) hgrd).trans y10d | with_reducible exact (hb.cell (p := ⟨w.heap.size, q * 14 + 10, none⟩) hgz).trans z10); have z11 : W.cell? ⟨w.heap.size, q * 14 + 11, none⟩ = some (.int .i64 0) := (by first | with_reducible exact (hb.cell (p := ⟨w.heap.size, q * 14 + 11, none⟩) hgrd).trans y11d | with_reducible exact (hb.cell (p := ⟨w.heap.size, q * 14 + 11, none⟩) hgz).trans z11); have z12 : W.cell? ⟨w.heap.size, q * 14 + 12, none⟩ = some (.int .i64 0) := (by first | with_reducible exact (hb.cell (p := ⟨w.heap.size, q * 14 + 12, none⟩) hgrd).trans y12d | with_reducible exact (hb.cell (p := ⟨w.heap.size, q * 14 + 12, none⟩) hgz).trans z12); have z13 : W.cell? ⟨w.heap.size, q * 14 + 13, none⟩ = some (.int .i64 0) := (by first | with_reducible exact (hb.cell (p := ⟨w.heap.size, q * 14 + 13, none⟩) hgrd).trans y13d | with_reducible exact (hb.cell (p := ⟨w.heap.size, q * 14 + 13, none⟩) hgz).trans z13); have BR : Hid (Blk W w2.heap.size 28 (rowsP PE.cells zP (qs.take q) k).flatten.toArray) := (by first | with_reducible exact Lib.hid (hbd.out.under hb) | with_reducible exact Lib.hid (BR.out.under hb)); have EB : Hid (Below w2.heap.size w2 W) := (by first | with_reducible exact Lib.hid (hed.out.trans (hb.mono hw2d)) | with_reducible exact Lib.hid (EB.out.trans (hb.mono hw2z))); obtain ⟨r0, r1, g0, g1⟩ := row2 BR.out HLK.out hlt2; have glz := BR.out.lt; have hgz : w.heap.size < W.heap.size := (by first | with_reducible exact Nat.lt_of_lt_of_le hgrd hb.size | with_reducible exact Nat.lt_of_lt_of_le hgz hb.size); have hw2z : w2.heap.size ≤ W.heap.size := EB.out.size; clear hb) | (go_at_call 16; refine (K16.out _).mono ?_; rintro e W ⟨rfl, hb⟩; have z0 : W.cell? ⟨w.heap.size, q * 14, none⟩ = some (.slice none 0 0) := (by first | with_reducible exact (hb.cell (p := ⟨w.heap.size, q * 14, none⟩) hgrd).trans y0d | with_reducible exact (hb.cell (p := ⟨w.heap.size, q * 14, none⟩) hgz).trans z0); have z1 : W.cell? ⟨w.heap.size, q * 14 + 1, none⟩ = some (.string p.k) := (by first | with_reducible exact (hb.cell (p := ⟨w.heap.size, q * 14 + 1, none⟩) hgrd).trans y1d | with_reducible exact (hb.cell (p := ⟨w.heap.size, q * 14 + 1, none⟩) hgz).trans z1); have z2 : W.cell? ⟨w.heap.size, q * 14 + 2, none⟩ = some (.slice none 0 0) := (by first | with_reducible exact (hb.cell (p := ⟨w.heap.size, q * 14 + 2, none⟩) hgrd).trans y2d | with_reducible exact (hb.cell (p := ⟨w.heap.size, q * 14 + 2, none⟩) hgz).trans z2); have z3 : W.cell? ⟨w.heap.size, q * 14 + 3, none⟩ = some (.nilIface) := (by first | with_reducible exact (hb.cell (p := ⟨w.heap.size, q * 14 + 3, none⟩) hgrd).trans y3d | with_reducible exact (hb.cell (p := ⟨w.heap.size, q * 14 + 3, none⟩) hgz).trans z3); have z4 : W.cell? ⟨w.heap.size, q * 14 + 4, none⟩ = some (.slice none 0 0) := (by first | with_reducible exact (hb.cell (p := ⟨w.heap.size, q * 14 + 4, none⟩) hgrd).trans y4d | with_reducible exact (hb.cell (p := ⟨w.heap.size, q * 14 + 4, none⟩) hgz).trans z4); have z5 : W.cell? ⟨w.heap.size, q * 14 + 5, none⟩ = some (.string p.v) := (by first | with_reducible exact (hb.cell (p := ⟨w.heap.size, q * 14 + 5, none⟩) hgrd).trans y5d | with_reducible exact (hb.cell (p := ⟨w.heap.size, q * 14 + 5, none⟩) hgz).trans z5); have z6 : W.cell? ⟨w.heap.size, q * 14 + 6, none⟩ = some (.slice none 0 0) := (by first | with_reducible exact (hb.cell (p := ⟨w.heap.size, q * 14 + 6, none⟩) hgrd).trans y6d | with_reducible exact (hb.cell (p := ⟨w.heap.size, q * 14 + 6, none⟩) hgz).trans z6); have z7 : W.cell? ⟨w.heap.size, q * 14 + 7, none⟩ = some (.pointer none) := (by first | with_reducible exact (hb.cell (p := ⟨w.heap.size, q * 14 + 7, none⟩) hgrd).trans y7d | with_reducible exact (hb.cell (p := ⟨w.heap.size, q * 14 + 7, none⟩) hgz).trans z7); have z8 : W.cell? ⟨w.heap.size, q * 14 + 8, none⟩ = some (.pointer none) := (by first | with_reducible exact (hb.cell (p := ⟨w.heap.size, q * 14 + 8, none⟩) hgrd).trans y8d | with_reducible exact (hb.cell (p := ⟨w.heap.size, q * 14 + 8, none⟩) hgz).trans z8); have z9 : W.cell? ⟨w.heap.size, q * 14 + 9, none⟩ = some (.string ⟨#[]⟩) := (by first | with_reducible exact (hb.cell (p := ⟨w.heap.size, q * 14 + 9, none⟩) hgrd).trans y9d | with_reducible exact (hb.cell (p := ⟨w.heap.size, q * 14 + 9, none⟩) hgz).trans z9); have z10 : W.cell? ⟨w.heap.size, q * 14 + 10, none⟩ = some (.int .i64 0) := (by first | with_reducible exact (hb.cell (p := ⟨w.heap.size, q * 14 + 10, none⟩) hgrd).trans y10d | with_reducible exact (hb.cell (p := ⟨w.heap.size, q * 14 + 10, none⟩) hgz).trans z10); have z11 : W.cell? ⟨w.heap.size, q * 14 + 11, none⟩ = some (.int .i64 0) := (by first | with_reducible exact (hb.cell (p := ⟨w.heap.size, q * 14 + 11, none⟩) hgrd).trans y11d | with_reducible exact (hb.cell (p := ⟨w.heap.size, q * 14 + 11, none⟩) hgz).trans z11); have z12 : W.cell? ⟨w.heap.size, q * 14 + 12, none⟩ = some (.int .i64 0) := (by first | with_reducible exact (hb.cell (p := ⟨w.heap.size, q * 14 + 12, none⟩) hgrd).trans y12d | with_reducible exact (hb.cell (p := ⟨w.heap.size, q * 14 + 12, none⟩) hgz).trans z12); have z13 : W.cell? ⟨w.heap.size, q * 14 + 13, none⟩ = some (.int .i64 0) := (by first | with_reducible exact (hb.cell (p := ⟨w.heap.size, q * 14 + 13, none⟩) hgrd).trans y13d | with_reducible exact (hb.cell (p := ⟨w.heap.size, q * 14 + 13, none⟩) hgz).trans z13); have BR : Hid (Blk W w2.heap.size 28 (rowsP PE.cells zP (qs.take q) k).flatten.toArray) := (by first | with_reducible exact Lib.hid (hbd.out.under hb) | with_reducible exact Lib.hid (BR.out.under hb)); have EB : Hid (Below w2.heap.size w2 W) := (by first | with_reducible exact Lib.hid (hed.out.trans (hb.mono hw2d)) | with_reducible exact Lib.hid (EB.out.trans (hb.mono hw2z))); obtain ⟨r0, r1, g0, g1⟩ := row2 BR.out HLK.out hlt2; have glz := BR.out.lt; have hgz : w.heap.size < W.heap.size := (by first | with_reducible exact Nat.lt_of_lt_of_le hgrd hb.size | with_reducible exact Nat.lt_of_lt_of_le hgz hb.size); have hw2z : w2.heap.size ≤ W.heap.size := EB.out.size; clear hb))
          all_goals
            have HST := Lib.hid (row2_set BR.out HLK.out hlt2 (.string p.k) (.string p.v) p rfl)
            rw [← HTK.out] at HST
            have BST := Lib.hid ((EB.out.setCell (p := ⟨w2.heap.size, q * 2, none⟩) (Nat.le_refl _) (.string p.k)).setCell (p := ⟨w2.heap.size, q * 2 + 1, none⟩) (Nat.le_refl _) (.string p.v))
            go_wp2_with fail
            go_roundw
            case rel => exact ⟨q + 1, by omega, by go_num, HST, BST⟩
            case measure => simp [intOf]; omega
        · obtain rfl : q = k := by omega
          have hfin := hblk.out
          rw [List.take_of_length_le (by rw [HQL.out]; exact Nat.le_refl _), rowsP_full _ _ _ _ HQL.out] at hfin
          have HFN := Lib.hid hfin
          have BE := Lib.hid (BW.out.trans (hbel.out.mono BW.out.size))
          clear hfin hblk
          go_wp2_with fail
          go_ret
          exact ⟨qs, w2.heap.size, rfl, HFN.out, HQP.out, HQQ.out, BW.out.size, BE.out⟩
end Go.Proofs.Ytlbiknodipcnbaa
