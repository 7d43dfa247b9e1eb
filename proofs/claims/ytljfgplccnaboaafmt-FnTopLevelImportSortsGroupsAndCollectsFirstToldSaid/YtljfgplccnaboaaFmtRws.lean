/- Rows of cells of several cells each: laid, filled from the head, set cell by cell; slices of structs opened. -/
import Derived.Test.YtljfgplccnaboaaFmtArgs
import Derived.OwnWalk
import Derived.Deep.Slices
import Derived.Lib.SmallJoins
namespace Go.Proofs.YtljfgplccnaboaaFmt
open Go.RowKit Go.ChangeShapes Go.WideShapes
set_option linter.unusedVariables false

theorem flat_len {α : Type} (f : α → List Value) (s : Nat) (hs : ∀ a, (f a).length = s) (es : List α) : (es.flatMap f).length = es.length * s := by
  induction es with
  | nil => simp
  | cons e es ih => rw [List.flatMap_cons, List.length_append, ih, hs, List.length_cons, Nat.add_mul, Nat.one_mul, Nat.add_comm]
theorem flat_at {α : Type} (f : α → List Value) (s : Nat) (hs : ∀ a, (f a).length = s) (es : List α) : ∀ (i j : Nat) (e : α), es[i]? = some e → j < s → (es.flatMap f)[i * s + j]? = (f e)[j]? := by
  induction es with
  | nil => intro i j e h; simp at h
  | cons x es ih =>
    intro i j e h hj
    rw [List.flatMap_cons]
    cases i with
    | zero =>
      simp only [List.getElem?_cons_zero, Option.some.injEq] at h
      subst h
      rw [List.getElem?_append_left (by rw [hs]; omega)]
      simp
    | succ i =>
      simp only [List.getElem?_cons_succ] at h
      have e1 : (i + 1) * s = i * s + s := Nat.succ_mul i s
      rw [List.getElem?_append_right (by rw [hs, e1]; omega), hs, ← ih i j e h hj]
      congr 1
      rw [e1]
      omega

theorem flatten_at (s : Nat) : ∀ (rows : List (List Value)), (∀ r ∈ rows, r.length = s) → ∀ (i j : Nat) (r : List Value), rows[i]? = some r → j < s → rows.flatten[i * s + j]? = r[j]? := by
  intro rows
  induction rows with
  | nil => intro _ i j r h; simp at h
  | cons x rows ih =>
    intro hs i j r h hj
    have hx := hs x (by simp)
    cases i with
    | zero =>
      simp at h
      subst h
      rw [List.flatten_cons, Nat.zero_mul, Nat.zero_add, List.getElem?_append_left (by omega)]
    | succ i =>
      simp only [List.getElem?_cons_succ] at h
      rw [List.flatten_cons, Nat.succ_mul, List.getElem?_append_right (by omega), hx, show i * s + s + j - s = i * s + j by omega]
      exact ih (fun r hr => hs r (by simp [hr])) i j r h hj
theorem flatten_set (s : Nat) : ∀ (rows : List (List Value)), (∀ r ∈ rows, r.length = s) → ∀ (i j : Nat) (r : List Value) (u : Value), rows[i]? = some r → j < s → rows.flatten.set (i * s + j) u = (rows.set i (r.set j u)).flatten := by
  intro rows
  induction rows with
  | nil => intro _ i j r u h; simp at h
  | cons x rows ih =>
    intro hs i j r u h hj
    have hx := hs x (by simp)
    cases i with
    | zero =>
      simp at h
      subst h
      rw [List.flatten_cons, Nat.zero_mul, Nat.zero_add, List.set_append_left _ _ (by omega), List.set_cons_zero, List.flatten_cons]
    | succ i =>
      simp only [List.getElem?_cons_succ] at h
      rw [List.flatten_cons, Nat.succ_mul, List.set_append_right _ _ (by omega), hx, show i * s + s + j - s = i * s + j by omega, List.set_cons_succ, List.flatten_cons]
      rw [ih (fun r hr => hs r (by simp [hr])) i j r u h hj]
/-- A made row filled from its head: rows of cells. -/
def rowsP {α : Type} (f : α → List Value) (z : List Value) (l : List α) (n : Nat) : List (List Value) := l.map f ++ List.replicate (n - l.length) z
theorem rowsP_at {α : Type} (f : α → List Value) (z : List Value) (l : List α) (n k : Nat) (hl : l.length = k) (hk : k < n) : (rowsP f z l n)[k]? = some z := by
  unfold rowsP
  rw [List.getElem?_append_right (by simp; omega), List.getElem?_replicate]
  simp
  omega
theorem rowsP_set {α : Type} (f : α → List Value) (z : List Value) (l : List α) (n k : Nat) (a : α) (hl : l.length = k) (hk : k < n) : (rowsP f z l n).set k (f a) = rowsP f z (l ++ [a]) n := by
  unfold rowsP
  subst hl
  rw [List.set_append_right _ _ (by simp), List.length_map, Nat.sub_self, List.map_append, List.append_assoc]
  congr 1
  rw [show n - l.length = (n - (l.length + 1)) + 1 by omega, List.replicate_succ, List.set_cons_zero]
  simp
theorem rowsP_full {α : Type} (f : α → List Value) (z : List Value) (l : List α) (n : Nat) (h : l.length = n) : (rowsP f z l n).flatten = l.flatMap f := by
  unfold rowsP
  rw [h, Nat.sub_self, List.replicate_zero, List.append_nil]
  rfl
theorem rowsP_len {α : Type} (f : α → List Value) (z : List Value) (s : Nat) (hf : ∀ a, (f a).length = s) (hz : z.length = s) (l : List α) (n : Nat) : ∀ r ∈ rowsP f z l n, r.length = s := by
  intro r hr
  rcases List.mem_append.1 hr with h | h
  · obtain ⟨a, _, rfl⟩ := List.mem_map.1 h
    exact hf a
  · rw [(List.mem_replicate.1 h).2]
    exact hz
theorem made_flat {α : Type} (f : α → List Value) (s : Nat) (hs : ∀ a, (f a).length = s) (hp : 0 < s) (x : α) (n : Nat) : madeCells (f x).toArray (n * s) = ((List.replicate n x).flatMap f).toArray := by
  apply Array.ext_getElem?
  intro j
  rcases Nat.lt_or_ge j (n * s) with hj | hj
  · have hL : (madeCells (f x).toArray (n * s))[j]? = some ((f x).toArray[j % s]!) := by
      simp [madeCells, hj, hs]
    have hd : j / s < n := (Nat.div_lt_iff_lt_mul hp).2 hj
    have e : j / s * s + j % s = j := by rw [Nat.mul_comm]; exact Nat.div_add_mod j s
    have hm := Nat.mod_lt j hp
    have hR := flat_at f s hs (List.replicate n x) (j / s) (j % s) x (by rw [List.getElem?_replicate, if_pos hd]) hm
    rw [e] at hR
    rw [hL, List.getElem?_toArray, hR]
    have h2 : j % s < (f x).length := by rw [hs]; exact hm
    simp [h2]
  · rw [Array.getElem?_eq_none (by rw [size_madeCells]; omega), Array.getElem?_eq_none (by rw [List.size_toArray, flat_len f s hs, List.length_replicate]; omega)]

theorem made_rowsP {α : Type} (f : α → List Value) (z : List Value) (s n : Nat) (hz : z.length = s) (hp : 0 < s) : madeCells z.toArray (n * s) = (rowsP f z ([] : List α) n).flatten.toArray := by
  rw [made_flat (fun _ : Unit => z) s (fun _ => hz) hp () n]
  unfold rowsP
  simp [List.flatMap]
/-- One cell of row k set. -/
theorem rowsP_one {α : Type} (f : α → List Value) (z : List Value) (s : Nat) (hf : ∀ a, (f a).length = s) (hz : z.length = s) (l : List α) (n k j : Nat) (a : α) (u : Value) (hl : l.length = k) (hk : k < n) (hj : j < s) (h : z.set j u = f a) :
    (rowsP f z l n).flatten.set (k * s + j) u = (rowsP f z (l ++ [a]) n).flatten := by
  rw [flatten_set s _ (rowsP_len f z s hf hz l n) k j z u (rowsP_at f z l n k hl hk) hj, h, rowsP_set f z l n k a hl hk]
theorem own_blk {w : World} {base e size g n : Nat} {xs : List Value} (h : w.ownsRow base e size (.slice (some ⟨g, 0, none⟩) n n) n xs) : Blk w g e xs.toArray := by
  obtain ⟨hl, h⟩ := h
  rcases h with ⟨h, _⟩ | ⟨g', cap, cur, hv, hb, hh, h1, h2, h3, h4⟩
  · cases h
  · injection hv with hv hn hc
    obtain rfl : cap = n := hc.symm
    injection hv with hv
    obtain rfl : g' = g := by injection hv with hv; exact hv.symm
    unfold Blk
    rw [hh]
    congr 2
    rw [List.take_of_length_le (by simp [h3])] at h4
    rw [← h4]
theorem own_made {w : World} {e size n : Nat} {Z : Array Value} (hz : Z.size = n * size) (hn : n ≤ 65536) : (w.alloc (.cells Z e)).ownsRow w.heap.size e size (.slice (some ⟨w.heap.size, 0, none⟩) 0 n) 0 [] :=
  ⟨by simp, .inr ⟨w.heap.size, n, Z, rfl, Nat.le_refl _, Blk.new w e Z, Nat.zero_le _, by unfold maxLen; omega, hz, by simp⟩⟩
theorem own_below {w w' : World} {base e size n : Nat} {v : Value} {xs : List Value} (h : w.ownsRow base e size v n xs) (hb : Below w.heap.size w w') : w'.ownsRow base e size v n xs := by
  obtain ⟨hl, h⟩ := h
  refine ⟨hl, ?_⟩
  rcases h with h | ⟨g, cap, cur, hv, hb', hh, h1, h2, h3, h4⟩
  · exact .inl h
  · exact .inr ⟨g, cap, cur, hv, hb', (hb.block g (Array.getElem?_eq_some_iff.1 hh).1).trans hh, h1, h2, h3, h4⟩
theorem own_drew {w : World} {base e size n : Nat} {v : Value} {xs : List Value} (h : w.ownsRow base e size v n xs) : w.drew.ownsRow base e size v n xs := h
theorem new_cells (w : World) (cs : Array Value) (t : TypeId) : ∀ (j : Nat) (u : Value), cs.toList[j]? = some u → (w.alloc (.cells cs t)).cell? ((⟨w.heap.size, 0, none⟩ : Addr).add j) = some u := by
  intro j u h
  have h2 : (w.alloc (.cells cs t)).cell? ⟨w.heap.size, j, none⟩ = some u := by
    rw [(Blk.new w t cs).cell]
    simpa using h
  rw [Go.WideShapes.add_plain]
  simpa using h2
theorem cell_far {w : World} {p : Addr} {u : Value} {b o : Nat} {x : Value} (hb : b ≠ p.block) (h : w.cell? ⟨b, o, none⟩ = some x) : (w.setCell p u).cell? ⟨b, o, none⟩ = some x :=
  (World.cell?_of_block (a := ⟨b, o, none⟩) (Below.heap_setCell w p u b hb)).trans h
section
variable {H : Type} {enc : TypeId × Value → H} {P : Program} {W : World}

/-- A slice whose elements can be opened one by one. -/
theorem open_gen {α : Type} (cells : α → List Value) (s : Nat) (hs : ∀ a, (cells a).length = s) (hp : 0 < s) (Ok : α → Prop) {t e : TypeId} (ht : P.underlying t = some (.slice e)) (ce : P.cellsOf e = s)
    (elem : ∀ n cs x, cs.length = s → DataW.trod enc P W 0 (fun _ => true) true n e cs = some x → ∃ a, Ok a ∧ cells a = cs)
    {a : Option Addr} {len cap : Nat} {d : DataW H} {p : List MemPlace} (h : DataW.Trod enc P W 0 (fun _ => true) true t (.slice a len cap) d p) :
    ∃ zs : List α, zs.length = len ∧ len ≤ cap ∧ cap ≤ maxLen ∧ (a = none → cap = 0) ∧ (∀ z ∈ zs, Ok z) ∧ Rd W W.heap.size a (zs.flatMap cells) := by
  obtain ⟨fuel, hf⟩ := h
  rcases Go.Deep.open_slice ht hf with ⟨hcs, _⟩ | ⟨x, l, c, m, n, D, Pl, hcs, _, hl, hm, hmm, _, hx⟩
  · simp [Value.cells] at hcs
    obtain ⟨rfl, rfl, rfl⟩ := hcs
    exact ⟨[], rfl, Nat.le_refl _, Nat.zero_le _, fun _ => rfl, by simp, .inl rfl⟩
  simp [Value.cells] at hcs
  obtain ⟨rfl, rfl, rfl⟩ := hcs
  simp only [if_true] at hmm
  subst hmm
  have each : ∀ i, i < len → ∃ z : α, Ok z ∧ ∀ j u, (cells z)[j]? = some u → W.cell? (x.add (i * s + j)) = some u := by
    intro i hi
    obtain ⟨cs', h1, h2⟩ := hx i (by omega)
    rw [ce] at h1
    obtain ⟨_, hlen, hcell⟩ := World.cells?_some h1
    obtain ⟨z, hz, hzc⟩ := elem _ _ _ hlen h2
    refine ⟨z, hz, fun j u hu => ?_⟩
    have hj : j < s := by have := (List.getElem?_eq_some_iff.1 hu).1; rwa [hs] at this
    have := hcell j hj
    rw [Go.Deep.add_add] at this
    rw [this, ← hzc]
    exact hu
  have mk : ∀ n, n ≤ len → ∃ zs : List α, zs.length = n ∧ ∀ i z, zs[i]? = some z → Ok z ∧ ∀ j u, (cells z)[j]? = some u → W.cell? (x.add (i * s + j)) = some u := by
    intro n
    induction n with
    | zero => intro _; exact ⟨[], rfl, fun i z h => by simp at h⟩
    | succ n ih =>
      intro hn
      obtain ⟨zs, hzl, hz⟩ := ih (by omega)
      obtain ⟨z, hz0, hz1⟩ := each n (by omega)
      refine ⟨zs ++ [z], by simp [hzl], fun i z' hi => ?_⟩
      rcases Nat.lt_or_ge i n with hlt | hge
      · rw [List.getElem?_append_left (by omega)] at hi
        exact hz i z' hi
      · have hlt := (List.getElem?_eq_some_iff.1 hi).1
        simp [hzl] at hlt
        obtain rfl : i = n := by omega
        rw [List.getElem?_append_right (by omega), hzl, Nat.sub_self] at hi
        simp at hi
        subst hi
        exact ⟨hz0, hz1⟩
  obtain ⟨zs, hzl, hz⟩ := mk len (Nat.le_refl _)
  refine ⟨zs, hzl, hl, hm, (by intro h; cases h), fun z hm => ?_, rd_of_cells fun i u hu => ?_⟩
  · obtain ⟨i, hi⟩ := List.getElem?_of_mem hm
    exact (hz i z hi).1
  · have hi : i < zs.length * s := by have := (List.getElem?_eq_some_iff.1 hu).1; rwa [flat_len cells s hs] at this
    have hd : i / s < zs.length := (Nat.div_lt_iff_lt_mul hp).2 hi
    obtain ⟨z, hzi⟩ : ∃ z, zs[i / s]? = some z := ⟨zs[i / s]'hd, by simp⟩
    have e : i / s * s + i % s = i := by rw [Nat.mul_comm]; exact Nat.div_add_mod i s
    have := flat_at cells s hs zs (i / s) (i % s) z hzi (Nat.mod_lt _ hp)
    rw [e, hu] at this
    have := (hz _ z hzi).2 (i % s) u this.symm
    rwa [e] at this

end
end Go.Proofs.YtljfgplccnaboaaFmt
