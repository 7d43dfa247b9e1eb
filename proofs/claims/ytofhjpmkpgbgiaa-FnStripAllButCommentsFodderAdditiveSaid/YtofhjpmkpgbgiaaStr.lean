/- StripComments.Fodder: the line ends alone are kept, without comments. -/
import Derived.Test.YtofhjpmkpgbgiaaTof
namespace Go.Proofs.Ytofhjpmkpgbgiaa
open Go.RowKit
set_option linter.unusedVariables false

def strip (es : List LE) : List LE := (es.filter (fun e => e.kind == 0)).map fun e => ⟨e.kind, e.blanks, e.indent, none⟩
def bareEl (e : LE) : El := ⟨.slice none 0 0, e.kind, e.blanks, e.indent⟩
def bareL (es : List LE) (k : Nat) : List El := (strip (es.take k)).map bareEl
theorem bareL_hit (es : List LE) (k : Nat) (e : LE) (he : es[k]? = some e) (hk : e.kind = 0) : bareL es (k + 1) = bareL es k ++ [bareEl e] := by
  unfold bareL strip
  rw [List.take_add_one, he]
  simp [List.filter_append, hk, bareEl]
theorem bareL_miss (es : List LE) (k : Nat) (e : LE) (he : es[k]? = some e) (hk : e.kind ≠ 0) : bareL es (k + 1) = bareL es k := by
  unfold bareL strip
  rw [List.take_add_one, he]
  simp [List.filter_append, hk]
theorem bareL_le (es : List LE) (k : Nat) : (bareL es k).length ≤ k := by
  unfold bareL strip
  simp only [List.length_map]
  refine Nat.le_trans (List.length_filter_le _ _) ?_
  simp
  exact Nat.min_le_left _ _
theorem bare_are (w : World) (S : Nat → Prop) (es : List LE) : ElsAre w S ((strip es).map bareEl) (strip es) := by
  refine ⟨by simp, fun i el e h1 h2 => ?_⟩
  rw [List.getElem?_map, h2] at h1
  obtain rfl := Option.some.inj h1
  refine ⟨rfl, rfl, rfl, ?_⟩
  obtain ⟨e', _, rfl⟩ := List.mem_map.1 (List.mem_of_getElem? h2)
  rfl
theorem new_cells (w : World) (cs : Array Value) (t : TypeId) : ∀ (j : Nat) (u : Value), cs.toList[j]? = some u → (w.alloc (.cells cs t)).cell? ((⟨w.heap.size, 0, none⟩ : Addr).add j) = some u := by
  intro j u h
  have h2 : (w.alloc (.cells cs t)).cell? ⟨w.heap.size, j, none⟩ = some u := by
    rw [(Blk.new w t cs).cell]
    simpa using h
  rw [Go.WideShapes.add_plain]
  simpa using h2
theorem new_cellsN (w : World) (cs : Array Value) (t : TypeId) (N : Nat) (hN : N = w.heap.size) : ∀ (j : Nat) (u : Value), cs.toList[j]? = some u → (w.alloc (.cells cs t)).cell? ((⟨N, 0, none⟩ : Addr).add j) = some u := by
  subst hN
  exact new_cells w cs t
theorem grown_set {w wr : World} (h : Below w.heap.size w wr) (p o : Nat) (u : Value) : w.grownBy (wr.setCell ⟨p, o, none⟩ u) (some p) :=
  ⟨h.os, h.tape, h.output, by simpa using h.size, fun k hk hp => (Below.heap_setCell wr ⟨p, o, none⟩ u k (fun e => hp (by rw [e]))).trans (h.block k hk)⟩
theorem of_hid {p : Prop} (h : Hid p) : p := h.out
/-- The row so far. -/
def Got (w wr : World) (g n cap : Nat) (els : List El) : Prop := n = els.length ∧ wr.ownsRow w.heap.size 50 4 (.slice (some ⟨g, 0, none⟩) n cap) n (cellsF els)
theorem own_rdS {w : World} {base e size g n c : Nat} {xs : List Value} {S : Nat → Prop} (h : w.ownsRow base e size (.slice (some ⟨g, 0, none⟩) n c) n xs) (hS : S g) : RdS w S (some ⟨g, 0, none⟩) xs := by
  have hc := h.cells (g := g) rfl
  refine .inr ⟨g, 0, rfl, hS, fun i u hu => ?_⟩
  have := hc i u hu
  rw [Go.WideShapes.add_plain] at this
  exact this
def Stripped (w : World) (p : Nat) (f : Option (List LE)) (e : Ending) (w' : World) : Prop :=
  e = .returned (.tuple #[]) ∧ ∃ v', Blk w' p 26 #[v'] ∧ FodV w' (New w w') v' (some (strip (f.getD []))) ∧ w.grownBy w' (some p)

set_option maxRecDepth 100000 in
set_option maxHeartbeats 3200000 in
theorem strip_any (w : World) (cp : Value) (p : Nat) (v : Value) (S : Nat → Prop) (f : Option (List LE)) (hp : Blk w p 26 #[v]) (hf : FodV w S v f) (hS : ∀ b, S b → b < w.heap.size) :
    Calls Try.prog 12 #[cp, .nilIface, .pointer (some ⟨p, 0, none⟩), .nilIface] w (Stripped w p f) := by
  obtain ⟨a, cap, rfl, hle, hfod, _⟩ := hf.open
  unfold Stripped
  generalize f.getD [] = es at *
  clear hf
  generalize hn : es.length = n at *
  have HN := Lib.hid hn
  have HF := Lib.hid hfod
  have HP := Lib.hid hp
  have hpl := hp.lt
  have c0 := hp.cell 0
  simp at c0
  clear hn hfod hp
  obtain ⟨i0, hi, hz0, hz1, hz2⟩ := info_parts Try.inf50
  have hmk : ∀ W, (Instr.makeSlice 26 (.int .i64 0) (.int .i64 0)).run Try.prog W = .ok (.slice (some ⟨W.heap.size, 0, none⟩) 0 0) (W.alloc (.cells (madeCells (Value.agg #[.slice none 0 0, .int .i64 0, .int .i64 0, .int .i64 0]).cells (0 * i0.size)) 50)) := fun W => run_make_n (P := Try.prog) 26 50 i0 _ Try.underlying26 hi hz0 .i64 .i64 0 0 (Nat.le_refl _) (by omega) (by omega) W
  rw [hz1, cellsF_zero] at hmk
  have HI := Lib.hid hi
  have HZ0 := Lib.hid hz0
  have HZ1 := Lib.hid hz1
  have HZ2 := Lib.hid hz2
  clear hi hz0 hz1 hz2
  go_enter Try.func12, Try.ntmps12
  go_wp2_with fail
  go_loopw [8, 17] (fun vf i wr => ∃ k g cap m : Nat, k ≤ n ∧ vf = .slice (some ⟨g, 0, none⟩) m cap ∧ i = .int .i64 k ∧ Hid (Got w wr g m cap (bareL es k)) ∧ Hid (Below w.heap.size w wr)) (fun _ i _ => n - (intOf i).toNat)
  case atStart => exact ⟨0, _, _, _, Nat.zero_le _, rfl, rfl, Lib.hid ⟨rfl, World.ownsRow_made w _ 0 (Nat.le_refl _) (by unfold maxLen; omega) (by rw [List.size_toArray, cellsF_len]; simp [padF])⟩, Lib.hid ((Below.refl _ _).alloc (Nat.le_refl _) _)⟩
  case round =>
    obtain ⟨k, g, cap', m, hk, rfl, rfl, hgot, hbel⟩ := hrel
    by_cases hlt : k < n
    · obtain ⟨e, he⟩ : ∃ e, es[k]? = some e := ⟨es[k]'(by rw [HN.out]; exact hlt), by simp⟩
      have hag0 : Agree S w wr := Agree.of_below hbel.out hS
      obtain ⟨b, off, com, hx, hb, hcm, x0, x1, x2, x3⟩ := (HF.out.keep hag0).at he
      subst hx
      obtain ⟨ca, cl, cc, rfl⟩ := hcm.is_slice
      have hb : b < w.heap.size := hS b hb
      have hbw : b < wr.heap.size := Nat.lt_of_lt_of_le hb hbel.out.size
      have hbg : wr.heap.size ≠ b := by omega
      by_cases hkd : e.kind = 0
      · have HH := Lib.hid (bareL_hit es k e he hkd)
        have hml : m ≤ k := by rw [hgot.out.1]; exact bareL_le es k
        clear he hag0 hcm
        obtain ⟨kd, bl, ind, cm⟩ := e
        simp only at x0 x1 x2 x3 hkd
        subst hkd
        go_wp2_with (first | (with_reducible show wpList _ _ _ (⟨some 29, _, _, _, _, _⟩ :: _) _ _; refine of_hid ?_) | fail)
        refine Lib.hid ?_
        refine wpList_append_lies _ (o := ⟨some 29, _, _, _, _, _⟩) rfl (.tmp 26) (.tmp 28) 26 rfl w.heap.size 50 i0 _ 4 48 Try.underlying26 HI.out HZ0.out HZ1.out HZ2.out (by simp [Value.cells]) (by omega) _ m (cellsF (bareL es k)) rfl (((hgot.out.2.alloc _).alloc _).alloc _) _ 1 1 (El.cells ⟨.slice none 0 0, 0, bl, ind⟩) rfl rfl (new_cellsN _ _ _ _ (by simp)) (by intro u hu; simp only [El.cells, List.mem_cons, List.not_mem_nil, or_false] at hu; rcases hu with rfl | rfl | rfl | rfl <;> rfl) (by omega) (by unfold maxLen; omega) (by omega) (by have := hbel.out.size; simp; omega) _ rfl ?_
        intro g2 cap2 w2 hown hgrow hg2 hlt2
        have HO := Lib.hid hown
        have hl3 := (((hbel.out.alloc hbel.out.size (.cells #[.slice ca cl cc, .int .i64 0, .int .i64 bl, .int .i64 ind] 50)).alloc (by have := hbel.out.size; simp; omega) (.cells #[.slice none 0 0, .int .i64 0, .int .i64 bl, .int .i64 ind] 50)).alloc (by have := hbel.out.size; simp; omega) (.cells #[.slice none 0 0, .int .i64 0, .int .i64 bl, .int .i64 ind] 50))
        have HB := Lib.hid (hl3.grown hgrow (by have := hbel.out.size; simp; omega) (by intro q hq; injection hq with hq; have := (hgot.out.2.lt g rfl).1; simp at hq; omega))
        clear hown hgrow hl3 hg2
        go_wp2
        go_roundw
        case rel => exact ⟨k + 1, g2, cap2, m + 1, by omega, rfl, by go_num, Lib.hid ⟨by rw [HH.out, hgot.out.1]; simp, by rw [HH.out, cellsF_append]; exact HO.out⟩, HB⟩
        case measure => simp [intOf]; omega
      · have HH := Lib.hid (bareL_miss es k e he hkd)
        clear he hag0 hcm
        obtain ⟨kd, bl, ind, cm⟩ := e
        simp only at x0 x1 x2 x3 hkd
        go_wp2
        go_roundw
        case rel => exact ⟨k + 1, g, cap', m, by omega, rfl, by go_num, Lib.hid ⟨by rw [HH.out]; exact hgot.out.1, by rw [HH.out]; exact hgot.out.2.alloc _⟩, Lib.hid (hbel.out.alloc hbel.out.size _)⟩
        case measure => simp [intOf]; omega
    · obtain rfl : k = n := by omega
      have hpl2 : p < wr.heap.size := Nat.lt_of_lt_of_le hpl hbel.out.size
      have HPW := Lib.hid (HP.out.below hbel.out hpl)
      have c1 := HPW.out.cell 0
      simp at c1
      have f1 := HPW.out.free 0
      go_wp2
      go_end0
      have hml : m ≤ k := by rw [hgot.out.1]; exact bareL_le es k
      have hbl : bareL es k = (strip es).map bareEl := by unfold bareL; rw [List.take_of_length_le (by rw [HN.out]; exact Nat.le_refl _)]
      have hlen : (strip es).length = m := by rw [hgot.out.1, hbl, List.length_map]
      have hgl := hgot.out.2.lt g rfl
      refine ⟨rfl, .slice (some ⟨g, 0, none⟩) m cap', ?_, ?_, grown_set hbel.out _ _ _⟩
      · have := HPW.out.set 0 (.slice (some ⟨g, 0, none⟩) m cap')
        simpa using this
      · refine ⟨_, _, by rw [hlen], by omega, ?_⟩
        refine FodIs.keep (w := wr) ?_ (Agree.setCell _ _ _ _ (by intro h; exact absurd h.1 (by simp; omega)))
        refine ⟨bareL es k, by rw [hbl]; exact bare_are _ _ _, own_rdS hgot.out.2 ⟨hgl.1, ?_⟩⟩
        simpa using hgl.2
end Go.Proofs.Ytofhjpmkpgbgiaa
