/- Fodders in memory, read as plain data: the blocks that they lie in are told by a set, so that stores elsewhere keep them. -/
import Derived.Test.YtlaghkppjdphnaaFmtZel
import Derived.OwnWalk
import Derived.Lib.BufferOwn
import Derived.Deep.AppendLies
namespace Go.Proofs.YtlaghkppjdphnaaFmt
open Go.RowKit
set_option linter.unusedVariables false

/-- An element as plain data; no comment: nil. -/
structure LE where
  kind : Int
  blanks : Int
  indent : Int
  com : Option (List ByteArray)

def RdS (w : World) (S : Nat → Prop) (a : Option Addr) (xs : List Value) : Prop :=
  xs = [] ∨ ∃ b off, a = some ⟨b, off, none⟩ ∧ S b ∧ ∀ i u, xs[i]? = some u → w.cell? ⟨b, off + i, none⟩ = some u
/-- The two worlds agree on the blocks of S. -/
def Agree (S : Nat → Prop) (w w' : World) : Prop := ∀ b, S b → w'.heap[b]? = w.heap[b]?
def ComIs (w : World) (S : Nat → Prop) (v : Value) : Option (List ByteArray) → Prop
  | none => v = .slice none 0 0
  | some ss => ∃ x cp, v = .slice (some x) ss.length cp ∧ ss.length ≤ 1048576 ∧ RdS w S (some x) (ss.map Value.string)
def ElIs (w : World) (S : Nat → Prop) (el : El) (e : LE) : Prop := el.kind = e.kind ∧ el.blanks = e.blanks ∧ el.indent = e.indent ∧ ComIs w S el.com e.com
def ElsAre (w : World) (S : Nat → Prop) (els : List El) (es : List LE) : Prop := els.length = es.length ∧ ∀ (i : Nat) (el : El) (e : LE), els[i]? = some el → es[i]? = some e → ElIs w S el e
def FodIs (w : World) (S : Nat → Prop) (a : Option Addr) (es : List LE) : Prop := ∃ els, ElsAre w S els es ∧ RdS w S a (cellsF els)
/-- A fodder's slice; none: nil. -/
def FodV (w : World) (S : Nat → Prop) (v : Value) : Option (List LE) → Prop
  | none => v = .slice none 0 0
  | some es => ∃ x cp, v = .slice (some x) es.length cp ∧ es.length ≤ 16777216 ∧ FodIs w S (some x) es

theorem Agree.trans {S : Nat → Prop} {w w1 w2 : World} (h : Agree S w w1) (k : Agree S w1 w2) : Agree S w w2 := fun b hb => (k b hb).trans (h b hb)
theorem Agree.sub {S T : Nat → Prop} {w w1 : World} (h : Agree S w w1) (hs : ∀ b, T b → S b) : Agree T w w1 := fun b hb => h b (hs b hb)
theorem Agree.refl (S : Nat → Prop) (w : World) : Agree S w w := fun _ _ => rfl
theorem Agree.of_below {S : Nat → Prop} {w w1 : World} {B : Nat} (h : Below B w w1) (hs : ∀ b, S b → b < B) : Agree S w w1 := fun b hb => h.block b (hs b hb)
theorem Agree.of_grown {S : Nat → Prop} {w w1 : World} {row : Option Nat} (h : w.grownBy w1 row) (hs : ∀ b, S b → b < w.heap.size ∧ some b ≠ row) : Agree S w w1 := fun b hb => h.block b (hs b hb).1 (hs b hb).2
theorem Agree.alloc (S : Nat → Prop) (w : World) (o : Obj) (hs : ∀ b, S b → b < w.heap.size) : Agree S w (w.alloc o) := fun b hb => Below.heap_alloc w o b (hs b hb)
theorem Agree.setCell (S : Nat → Prop) (w : World) (p : Addr) (u : Value) (hs : ¬ S p.block) : Agree S w (w.setCell p u) := fun b hb => Below.heap_setCell w p u b (fun h => hs (h ▸ hb))
theorem Agree.drew (S : Nat → Prop) (w : World) : Agree S w w.drew := fun _ _ => rfl

theorem RdS.keep {w w' : World} {S : Nat → Prop} {a : Option Addr} {xs : List Value} (h : RdS w S a xs) (hk : Agree S w w') : RdS w' S a xs := by
  rcases h with h | ⟨b, off, ha, hb, hc⟩
  · exact .inl h
  · exact .inr ⟨b, off, ha, hb, fun i u hu => (World.cell?_of_block (a := ⟨b, off + i, none⟩) (hk b hb)).trans (hc i u hu)⟩
theorem RdS.sub {w : World} {S T : Nat → Prop} {a : Option Addr} {xs : List Value} (h : RdS w S a xs) (hs : ∀ b, S b → T b) : RdS w T a xs := by
  rcases h with h | ⟨b, off, ha, hb, hc⟩
  · exact .inl h
  · exact .inr ⟨b, off, ha, hs b hb, hc⟩
theorem RdS.pos {w : World} {S : Nat → Prop} {a : Option Addr} {xs : List Value} (h : RdS w S a xs) (hl : 0 < xs.length) : ∃ b off, a = some ⟨b, off, none⟩ ∧ S b ∧ ∀ i u, xs[i]? = some u → w.cell? ⟨b, off + i, none⟩ = some u := by
  rcases h with h | h
  · simp [h] at hl
  · exact h
theorem RdS.of_rd {w : World} {B : Nat} {a : Option Addr} {xs : List Value} (h : Rd w B a xs) : RdS w (fun b => b < B) a xs := by
  rcases h with h | ⟨b, off, ha, hb, hc⟩
  · exact .inl h
  · exact .inr ⟨b, off, ha, hb, hc⟩
theorem Blk.rdS {w : World} {g : Nat} {t : TypeId} {cs : Array Value} (h : Blk w g t cs) {S : Nat → Prop} (hS : S g) : RdS w S (some ⟨g, 0, none⟩) cs.toList :=
  .inr ⟨g, 0, rfl, hS, fun i u hu => by rw [Nat.zero_add, h.cell]; simpa using hu⟩
theorem ComIs.keep {w w' : World} {S : Nat → Prop} {v : Value} {c : Option (List ByteArray)} (h : ComIs w S v c) (hk : Agree S w w') : ComIs w' S v c := by
  cases c with
  | none => exact h
  | some ss => obtain ⟨x, cp, h1, h2, h3⟩ := h; exact ⟨x, cp, h1, h2, h3.keep hk⟩
theorem ComIs.sub {w : World} {S T : Nat → Prop} {v : Value} {c : Option (List ByteArray)} (h : ComIs w S v c) (hs : ∀ b, S b → T b) : ComIs w T v c := by
  cases c with
  | none => exact h
  | some ss => obtain ⟨x, cp, h1, h2, h3⟩ := h; exact ⟨x, cp, h1, h2, h3.sub hs⟩
theorem ComIs.is_slice {w : World} {S : Nat → Prop} {v : Value} {c : Option (List ByteArray)} (h : ComIs w S v c) : ∃ a l cp, v = .slice a l cp := by
  cases c with
  | none => exact ⟨_, _, _, h⟩
  | some ss => obtain ⟨x, cp, h1, _⟩ := h; exact ⟨_, _, _, h1⟩
theorem ElIs.keep {w w' : World} {S : Nat → Prop} {v : El} {c : LE} (h : ElIs w S v c) (hk : Agree S w w') : ElIs w' S v c := ⟨h.1, h.2.1, h.2.2.1, h.2.2.2.keep hk⟩
theorem ElIs.sub {w : World} {S T : Nat → Prop} {v : El} {c : LE} (h : ElIs w S v c) (hs : ∀ b, S b → T b) : ElIs w T v c := ⟨h.1, h.2.1, h.2.2.1, h.2.2.2.sub hs⟩
theorem ElsAre.keep {w w' : World} {S : Nat → Prop} {v : List El} {c : List LE} (h : ElsAre w S v c) (hk : Agree S w w') : ElsAre w' S v c := ⟨h.1, fun i el e h1 h2 => (h.2 i el e h1 h2).keep hk⟩
theorem ElsAre.sub {w : World} {S T : Nat → Prop} {v : List El} {c : List LE} (h : ElsAre w S v c) (hs : ∀ b, S b → T b) : ElsAre w T v c := ⟨h.1, fun i el e h1 h2 => (h.2 i el e h1 h2).sub hs⟩
theorem ElsAre.nil (w : World) (S : Nat → Prop) : ElsAre w S [] [] := ⟨rfl, fun i el e h => by simp at h⟩
theorem ElsAre.snoc {w : World} {S : Nat → Prop} {v : List El} {c : List LE} (h : ElsAre w S v c) {el : El} {e : LE} (he : ElIs w S el e) : ElsAre w S (v ++ [el]) (c ++ [e]) := by
  refine ⟨by simp [h.1], fun i el' e' h1 h2 => ?_⟩
  rcases Nat.lt_or_ge i v.length with hl | hl
  · rw [List.getElem?_append_left hl] at h1
    rw [List.getElem?_append_left (by rw [← h.1]; exact hl)] at h2
    exact h.2 i el' e' h1 h2
  · have hlt := (List.getElem?_eq_some_iff.1 h1).1
    simp at hlt
    obtain rfl : i = v.length := by omega
    rw [List.getElem?_append_right (Nat.le_refl _), Nat.sub_self] at h1
    rw [List.getElem?_append_right (by rw [h.1]; exact Nat.le_refl _), h.1, Nat.sub_self] at h2
    simp at h1 h2
    subst h1 h2
    exact he
theorem ElsAre.one {w : World} {S : Nat → Prop} {v : List El} {c : List LE} (h : ElsAre w S v c) : ∀ u ∈ cellsF v, u.oneCell' = true := by
  intro u hu
  obtain ⟨el, hel, hu⟩ := List.mem_flatMap.1 hu
  obtain ⟨i, hi⟩ := List.getElem?_of_mem hel
  have hl := (List.getElem?_eq_some_iff.1 hi).1
  obtain ⟨e, he⟩ : ∃ e, c[i]? = some e := ⟨c[i]'(by rw [← h.1]; exact hl), by simp⟩
  obtain ⟨a, l, cp, hc⟩ := (h.2 i el e hi he).2.2.2.is_slice
  obtain ⟨com, kind, blanks, indent⟩ := el
  simp only at hc
  subst hc
  simp only [El.cells, List.mem_cons, List.not_mem_nil, or_false] at hu
  rcases hu with rfl | rfl | rfl | rfl <;> rfl
theorem FodIs.keep {w w' : World} {S : Nat → Prop} {a : Option Addr} {es : List LE} (h : FodIs w S a es) (hk : Agree S w w') : FodIs w' S a es := by
  obtain ⟨els, h1, h2⟩ := h
  exact ⟨els, h1.keep hk, h2.keep hk⟩
theorem FodIs.sub {w : World} {S T : Nat → Prop} {a : Option Addr} {es : List LE} (h : FodIs w S a es) (hs : ∀ b, S b → T b) : FodIs w T a es := by
  obtain ⟨els, h1, h2⟩ := h
  exact ⟨els, h1.sub hs, h2.sub hs⟩
theorem FodV.keep {w w' : World} {S : Nat → Prop} {v : Value} {f : Option (List LE)} (h : FodV w S v f) (hk : Agree S w w') : FodV w' S v f := by
  cases f with
  | none => exact h
  | some es => obtain ⟨x, cp, h1, h2, h3⟩ := h; exact ⟨x, cp, h1, h2, h3.keep hk⟩
theorem FodV.sub {w : World} {S T : Nat → Prop} {v : Value} {f : Option (List LE)} (h : FodV w S v f) (hs : ∀ b, S b → T b) : FodV w T v f := by
  cases f with
  | none => exact h
  | some es => obtain ⟨x, cp, h1, h2, h3⟩ := h; exact ⟨x, cp, h1, h2, h3.sub hs⟩
/-- One form for nil and any other. -/
theorem FodV.open {w : World} {S : Nat → Prop} {v : Value} {f : Option (List LE)} (h : FodV w S v f) : ∃ a cp, v = .slice a (f.getD []).length cp ∧ (f.getD []).length ≤ 16777216 ∧ FodIs w S a (f.getD []) ∧ (a = none ↔ f = none) := by
  cases f with
  | none => exact ⟨none, 0, h, by simp, ⟨[], ElsAre.nil _ _, .inl rfl⟩, by simp⟩
  | some es => obtain ⟨x, cp, h1, h2, h3⟩ := h; exact ⟨some x, cp, h1, h2, h3, by simp⟩
theorem ComIs.open {w : World} {S : Nat → Prop} {v : Value} {c : Option (List ByteArray)} (h : ComIs w S v c) : ∃ a cp, v = .slice a (c.getD []).length cp ∧ (c.getD []).length ≤ 1048576 ∧ RdS w S a ((c.getD []).map Value.string) ∧ (a = none ↔ c = none) := by
  cases c with
  | none => exact ⟨none, 0, h, by simp, .inl rfl, by simp⟩
  | some es => obtain ⟨x, cp, h1, h2, h3⟩ := h; exact ⟨some x, cp, h1, h2, h3, by simp⟩
/-- The four cells of element k of a fodder. -/
theorem FodIs.at {w : World} {S : Nat → Prop} {a : Option Addr} {es : List LE} (h : FodIs w S a es) {k : Nat} {e : LE} (he : es[k]? = some e) :
    ∃ b off com, a = some ⟨b, off, none⟩ ∧ S b ∧ ComIs w S com e.com ∧ w.cell? ⟨b, off + k * 4, none⟩ = some com ∧ w.cell? ⟨b, off + k * 4 + 1, none⟩ = some (.int .i64 e.kind) ∧ w.cell? ⟨b, off + k * 4 + 2, none⟩ = some (.int .i64 e.blanks) ∧ w.cell? ⟨b, off + k * 4 + 3, none⟩ = some (.int .i64 e.indent) := by
  obtain ⟨els, h1, h2⟩ := h
  have hk : k < es.length := (List.getElem?_eq_some_iff.1 he).1
  obtain ⟨el, hel⟩ : ∃ el, els[k]? = some el := ⟨els[k]'(by rw [h1.1]; exact hk), by simp⟩
  obtain ⟨b, off, ha, hb, hc⟩ := h2.pos (by rw [cellsF_len, h1.1]; omega)
  obtain ⟨g1, g2, g3, g4⟩ := h1.2 k el e hel he
  refine ⟨b, off, el.com, ha, hb, g4, ?_, ?_, ?_, ?_⟩
  · exact hc _ _ (cellsF_com els k el hel)
  · rw [← g1, Nat.add_assoc]; exact hc _ _ (cellsF_kind els k el hel)
  · rw [← g2, Nat.add_assoc]; exact hc _ _ (cellsF_blanks els k el hel)
  · rw [← g3, Nat.add_assoc]; exact hc _ _ (cellsF_indent els k el hel)

/-- What an input element says. -/
def ZE.le (z : ZE) : LE := ⟨z.kind, z.blanks, z.indent, z.ca.map fun _ => z.ss⟩
theorem IsStrs.com {w : World} {a : Option Addr} {l cp : Nat} {ss : List ByteArray} (h : IsStrs w a l cp ss) (hl : l ≤ 1048576) : ComIs w (fun b => b < w.heap.size) (.slice a l cp) (a.map fun _ => ss) := by
  obtain ⟨h1, h2, h3, h4, h5, h6⟩ := h
  cases a with
  | none =>
    obtain rfl := h4 rfl
    obtain rfl : l = 0 := Nat.le_zero.1 h2
    rfl
  | some x => exact ⟨x, cp, by rw [h1], by rw [h1]; exact hl, RdS.of_rd h6⟩
/-- A made row of elements: as many zero elements as are not written yet. -/
def zeroEl : El := ⟨.slice none 0 0, 0, 0, 0⟩
def padF (es : List El) (n : Nat) : List El := es ++ List.replicate (n - es.length) zeroEl
theorem padF_at (es : List El) (n k : Nat) (hl : es.length = k) (hk : k < n) : (padF es n)[k]? = some zeroEl := by
  unfold padF
  rw [List.getElem?_append_right (by omega), List.getElem?_replicate]
  simp
  omega
theorem padF_set (es : List El) (n k : Nat) (e : El) (hl : es.length = k) (hk : k < n) : (padF es n).set k e = padF (es ++ [e]) n := by
  unfold padF
  subst hl
  rw [List.set_append_right _ _ (Nat.le_refl _), Nat.sub_self, List.length_append, List.append_assoc]
  congr 1
  rw [show n - es.length = (n - (es.length + [e].length)) + 1 by simp; omega, List.replicate_succ]
  simp
theorem padF_full (es : List El) : padF es es.length = es := by simp [padF]
theorem cellsF_set4 (es : List El) (k : Nat) (e : El) (u0 : Value) (u1 u2 u3 : Int) (h : es[k]? = some e) :
    (((((cellsF es).toArray.setIfInBounds (k * 4) u0).setIfInBounds (k * 4 + 1) (.int .i64 u1)).setIfInBounds (k * 4 + 2) (.int .i64 u2)).setIfInBounds (k * 4 + 3) (.int .i64 u3)) = (cellsF (es.set k ⟨u0, u1, u2, u3⟩)).toArray := by
  have hk : k < es.length := (List.getElem?_eq_some_iff.1 h).1
  obtain ⟨e0, e1, e2, e3⟩ := e
  have s0 := cellsF_set es k 0 ⟨e0, e1, e2, e3⟩ ⟨u0, e1, e2, e3⟩ u0 h (by omega) rfl
  rw [Nat.add_zero] at s0
  have s1 := cellsF_set (es.set k ⟨u0, e1, e2, e3⟩) k 1 ⟨u0, e1, e2, e3⟩ ⟨u0, u1, e2, e3⟩ (.int .i64 u1) (by simp [hk]) (by omega) rfl
  have s2 := cellsF_set (es.set k ⟨u0, u1, e2, e3⟩) k 2 ⟨u0, u1, e2, e3⟩ ⟨u0, u1, u2, e3⟩ (.int .i64 u2) (by simp [hk]) (by omega) rfl
  have s3 := cellsF_set (es.set k ⟨u0, u1, u2, e3⟩) k 3 ⟨u0, u1, u2, e3⟩ ⟨u0, u1, u2, u3⟩ (.int .i64 u3) (by simp [hk]) (by omega) rfl
  rw [List.set_set] at s1 s2 s3
  rw [s0, s1, s2, s3]
theorem cellsF_zero (n : Nat) : (madeCells (Value.agg #[.slice none 0 0, .int .i64 0, .int .i64 0, .int .i64 0]).cells (n * 4)) = (cellsF (padF [] n)).toArray := by
  have hz : (Value.agg #[.slice none 0 0, .int .i64 0, .int .i64 0, .int .i64 0]).cells = #[.slice none 0 0, .int .i64 0, .int .i64 0, .int .i64 0] := by simp [Value.cells]
  rw [hz]
  apply Array.ext_getElem?
  intro j
  have hlen : (padF [] n).length = n := by simp [padF]
  rcases Nat.lt_or_ge j (n * 4) with hj | hj
  · have hL : (madeCells #[Value.slice none 0 0, .int .i64 0, .int .i64 0, .int .i64 0] (n * 4))[j]? = some (#[Value.slice none 0 0, .int .i64 0, .int .i64 0, .int .i64 0][j % 4]!) := by
      simp [madeCells, hj]
    have hR := cellsF_at (padF [] n) (j / 4) (j % 4) zeroEl (by simp only [padF, List.nil_append, List.length_nil, Nat.sub_zero, List.getElem?_replicate]; rw [if_pos (by omega)]) (by omega)
    rw [hL, List.getElem?_toArray, show j = j / 4 * 4 + j % 4 by omega, hR]
    have h4 : (j / 4 * 4 + j % 4) % 4 = j % 4 := by omega
    rw [h4]
    have : j % 4 < 4 := by omega
    generalize j % 4 = m at *
    rcases m with _ | _ | _ | _ | m
    · rfl
    · rfl
    · rfl
    · rfl
    · omega
  · rw [Array.getElem?_eq_none (by rw [size_madeCells]; omega), Array.getElem?_eq_none (by rw [List.size_toArray, cellsF_len, hlen]; omega)]
/-- The four cells of element k overwritten. -/
def put4 (w : World) (g k : Nat) (u0 : Value) (u1 u2 u3 : Int) : World :=
  (((w.setCell ⟨g, k * 4, none⟩ u0).setCell ⟨g, k * 4 + 1, none⟩ (.int .i64 u1)).setCell ⟨g, k * 4 + 2, none⟩ (.int .i64 u2)).setCell ⟨g, k * 4 + 3, none⟩ (.int .i64 u3)
theorem put4_grown (w : World) (g k : Nat) (u0 : Value) (u1 u2 u3 : Int) : w.grownBy (put4 w g k u0 u1 u2 u3) (some g) :=
  Lib.grownBy_setB (Lib.grownBy_setB (Lib.grownBy_setB (Lib.grownBy_setB (World.grownBy.refl w _) _ _) _ _) _ _) _ _
theorem put4_blk {w : World} {t g n k : Nat} {es : List El} (h : Blk w g t (cellsF (padF es n)).toArray) (hl : es.length = k) (hk : k < n) (u0 : Value) (u1 u2 u3 : Int) : Blk (put4 w g k u0 u1 u2 u3) g t (cellsF (padF (es ++ [⟨u0, u1, u2, u3⟩]) n)).toArray := by
  have h5 := (((h.set (k * 4) u0).set (k * 4 + 1) (.int .i64 u1)).set (k * 4 + 2) (.int .i64 u2)).set (k * 4 + 3) (.int .i64 u3)
  rw [cellsF_set4 _ k _ _ _ _ _ (padF_at _ n k hl hk), padF_set _ n k _ hl hk] at h5
  exact h5
/-- The four cells of element k of a block that is known whole. -/
theorem blk_at {w : World} {t g : Nat} {es : List El} (h : Blk w g t (cellsF es).toArray) {k : Nat} {e : El} (he : es[k]? = some e) :
    w.cell? ⟨g, k * 4, none⟩ = some e.com ∧ w.cell? ⟨g, k * 4 + 1, none⟩ = some (.int .i64 e.kind) ∧ w.cell? ⟨g, k * 4 + 2, none⟩ = some (.int .i64 e.blanks) ∧ w.cell? ⟨g, k * 4 + 3, none⟩ = some (.int .i64 e.indent) := by
  refine ⟨?_, ?_, ?_, ?_⟩ <;> rw [h.cell, List.getElem?_toArray]
  · exact cellsF_com es k e he
  · exact cellsF_kind es k e he
  · exact cellsF_blanks es k e he
  · exact cellsF_indent es k e he
end Go.Proofs.YtlaghkppjdphnaaFmt
