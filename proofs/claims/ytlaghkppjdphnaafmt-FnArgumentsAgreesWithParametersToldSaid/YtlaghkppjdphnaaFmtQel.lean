/- Inputs that are slices of structs of four integers, and slices of such slices, opened. -/
import Derived.Test.YtlaghkppjdphnaaFmtZel
namespace Go.Proofs.YtlaghkppjdphnaaFmt
open Go.RowKit Go.ChangeShapes Go.WideShapes
set_option linter.unusedVariables false

structure QE where
  kind : Int
  blanks : Int
  indent : Int
  lines : Int
def QE.cells (z : QE) : List Value := [.int .i64 z.kind, .int .i64 z.blanks, .int .i64 z.indent, .int .i64 z.lines]
def cellsQ (zs : List QE) : List Value := zs.flatMap QE.cells
theorem cellsQ_len (zs : List QE) : (cellsQ zs).length = zs.length * 4 := flat_len QE.cells 4 (fun _ => rfl) zs
theorem cellsQ_at (zs : List QE) (i j : Nat) (z : QE) (h : zs[i]? = some z) (hj : j < 4) : (cellsQ zs)[i * 4 + j]? = z.cells[j]? := flat_at QE.cells 4 (fun _ => rfl) zs i j z h hj
/-- A slice of elements that came in. -/
def IsQs (w : World) (a : Option Addr) (len cap : Nat) (zs : List QE) : Prop :=
  zs.length = len ∧ len ≤ cap ∧ cap ≤ maxLen ∧ (a = none → cap = 0) ∧ Rd w w.heap.size a (cellsQ zs)
theorem IsQs.below {w w' : World} {a : Option Addr} {n c : Nat} {zs : List QE} (h : IsQs w a n c zs) (hb : Below w.heap.size w w') : IsQs w' a n c zs :=
  ⟨h.1, h.2.1, h.2.2.1, h.2.2.2.1, (h.2.2.2.2.below hb).mono hb.size⟩
/-- The four cells of element k. -/
theorem IsQs.at {w : World} {B : Nat} {a : Option Addr} {zs : List QE} (h : Rd w B a (cellsQ zs)) {k : Nat} {z : QE} (hz : zs[k]? = some z) :
    ∃ b off, a = some ⟨b, off, none⟩ ∧ b < B ∧ w.cell? ⟨b, off + k * 4, none⟩ = some (.int .i64 z.kind) ∧ w.cell? ⟨b, off + k * 4 + 1, none⟩ = some (.int .i64 z.blanks) ∧ w.cell? ⟨b, off + k * 4 + 2, none⟩ = some (.int .i64 z.indent) ∧ w.cell? ⟨b, off + k * 4 + 3, none⟩ = some (.int .i64 z.lines) := by
  have hk : k < zs.length := (List.getElem?_eq_some_iff.1 hz).1
  obtain ⟨b, off, ha, hb, hc⟩ := h.pos (by rw [cellsQ_len]; omega)
  refine ⟨b, off, ha, hb, ?_, ?_, ?_, ?_⟩
  · exact hc (k * 4) _ (cellsQ_at zs k 0 z hz (by omega))
  · exact hc (k * 4 + 1) _ (cellsQ_at zs k 1 z hz (by omega))
  · exact hc (k * 4 + 2) _ (cellsQ_at zs k 2 z hz (by omega))
  · exact hc (k * 4 + 3) _ (cellsQ_at zs k 3 z hz (by omega))
/-- An inner slice. -/
structure QS where
  a : Option Addr
  l : Nat
  c : Nat
  zs : List QE
def QS.val (s : QS) : Value := .slice s.a s.l s.c
def IsQss (w : World) (a : Option Addr) (len cap : Nat) (ss : List QS) : Prop :=
  ss.length = len ∧ len ≤ cap ∧ cap ≤ maxLen ∧ (a = none → cap = 0) ∧ (∀ s ∈ ss, IsQs w s.a s.l s.c s.zs) ∧ Rd w w.heap.size a (ss.map QS.val)
theorem IsQss.below {w w' : World} {a : Option Addr} {n c : Nat} {ss : List QS} (h : IsQss w a n c ss) (hb : Below w.heap.size w w') : IsQss w' a n c ss :=
  ⟨h.1, h.2.1, h.2.2.1, h.2.2.2.1, fun z hz => (h.2.2.2.2.1 z hz).below hb, (h.2.2.2.2.2.below hb).mono hb.size⟩
theorem IsQss.at {w : World} {B : Nat} {a : Option Addr} {ss : List QS} (h : Rd w B a (ss.map QS.val)) {k : Nat} {s : QS} (hs : ss[k]? = some s) :
    ∃ b off, a = some ⟨b, off, none⟩ ∧ b < B ∧ w.cell? ⟨b, off + k, none⟩ = some (.slice s.a s.l s.c) := by
  have hk : k < ss.length := (List.getElem?_eq_some_iff.1 hs).1
  obtain ⟨b, off, ha, hb, hc⟩ := h.pos (by rw [List.length_map]; omega)
  exact ⟨b, off, ha, hb, hc k _ (by simp [hs, QS.val])⟩

section
variable {H : Type} {enc : TypeId × Value → H} {P : Program} {W : World}

/-- A slice whose elements can be opened one by one. -/
theorem open_gen {α : Type} (cells : α → List Value) (s : Nat) (hs : ∀ a, (cells a).length = s) (hp : 0 < s) (Ok : α → Prop) {t e : TypeId} (ht : P.underlying t = some (.slice e)) (ce : P.cellsOf e = s)
    (elem : ∀ n cs x, cs.length = s → DataW.trod enc P W 0 (fun _ => true) true n e cs = some x → ∃ a, Ok a ∧ cells a = cs)
    {a : Option Addr} {len cap : Nat} {d : DataW H} {p : List MemPlace} (h : DataW.Trod enc P W 0 (fun _ => true) true t (.slice a len cap) d p) :
    ∃ zs : List α, zs.length = len ∧ len ≤ cap ∧ cap ≤ maxLen ∧ (a = none → cap = 0) ∧ (∀ z ∈ zs, Ok z) ∧ Rd W W.heap.size a (zs.flatMap cells) := by
  obtain ⟨fuel, hf⟩ := h
  rcases Go.Deep.open_slice ht hf with ⟨hcs, _⟩ | ⟨x, l, c, m, n, D, Pl, hcs, _, hl, hm, hmm, _, hx⟩
  · simp [Value.cells] at hcs
    obtain ⟨rfl, rfl, rfl⟩ := hcs
    exact ⟨[], rfl, Nat.le_refl _, Nat.zero_le _, fun _ => rfl, by simp, .inl rfl⟩
  simp [Value.cells] at hcs
  obtain ⟨rfl, rfl, rfl⟩ := hcs
  simp only [if_true] at hmm
  subst hmm
  have each : ∀ i, i < len → ∃ z : α, Ok z ∧ ∀ j u, (cells z)[j]? = some u → W.cell? (x.add (i * s + j)) = some u := by
    intro i hi
    obtain ⟨cs', h1, h2⟩ := hx i (by omega)
    rw [ce] at h1
    obtain ⟨_, hlen, hcell⟩ := World.cells?_some h1
    obtain ⟨z, hz, hzc⟩ := elem _ _ _ hlen h2
    refine ⟨z, hz, fun j u hu => ?_⟩
    have hj : j < s := by have := (List.getElem?_eq_some_iff.1 hu).1; rwa [hs] at this
    have := hcell j hj
    rw [Go.Deep.add_add] at this
    rw [this, ← hzc]
    exact hu
  have mk : ∀ n, n ≤ len → ∃ zs : List α, zs.length = n ∧ ∀ i z, zs[i]? = some z → Ok z ∧ ∀ j u, (cells z)[j]? = some u → W.cell? (x.add (i * s + j)) = some u := by
    intro n
    induction n with
    | zero => intro _; exact ⟨[], rfl, fun i z h => by simp at h⟩
    | succ n ih =>
      intro hn
      obtain ⟨zs, hzl, hz⟩ := ih (by omega)
      obtain ⟨z, hz0, hz1⟩ := each n (by omega)
      refine ⟨zs ++ [z], by simp [hzl], fun i z' hi => ?_⟩
      rcases Nat.lt_or_ge i n with hlt | hge
      · rw [List.getElem?_append_left (by omega)] at hi
        exact hz i z' hi
      · have hlt := (List.getElem?_eq_some_iff.1 hi).1
        simp [hzl] at hlt
        obtain rfl : i = n := by omega
        rw [List.getElem?_append_right (by omega), hzl, Nat.sub_self] at hi
        simp at hi
        subst hi
        exact ⟨hz0, hz1⟩
  obtain ⟨zs, hzl, hz⟩ := mk len (Nat.le_refl _)
  refine ⟨zs, hzl, hl, hm, (by intro h; cases h), fun z hm => ?_, rd_of_cells fun i u hu => ?_⟩
  · obtain ⟨i, hi⟩ := List.getElem?_of_mem hm
    exact (hz i z hi).1
  · have hi : i < zs.length * s := by have := (List.getElem?_eq_some_iff.1 hu).1; rwa [flat_len cells s hs] at this
    have hd : i / s < zs.length := (Nat.div_lt_iff_lt_mul hp).2 hi
    obtain ⟨z, hzi⟩ : ∃ z, zs[i / s]? = some z := ⟨zs[i / s]'hd, by simp⟩
    have e : i / s * s + i % s = i := by rw [Nat.mul_comm]; exact Nat.div_add_mod i s
    have := flat_at cells s hs zs (i / s) (i % s) z hzi (Nat.mod_lt _ hp)
    rw [e, hu] at this
    have := (hz _ z hzi).2 (i % s) u this.symm
    rwa [e] at this

theorem elem_q {e : TypeId} {f0 f1 f2 f3 : Field} (he : P.underlying e = some (.struct #[f0, f1, f2, f3])) (hone : Go.Deep.oneCellFields P #[f0, f1, f2, f3] = true)
    (k0 : P.underlying f0.type = some (.int .i64)) (k1 : P.underlying f1.type = some (.int .i64)) (k2 : P.underlying f2.type = some (.int .i64)) (k3 : P.underlying f3.type = some (.int .i64)) :
    ∀ n cs x, cs.length = 4 → DataW.trod enc P W 0 (fun _ => true) true n e cs = some x → ∃ a : QE, True ∧ a.cells = cs := by
  intro n cs x hl h2
  obtain ⟨o0, c0⟩ := Go.Deep.hone_of hone 0 f0 rfl
  obtain ⟨o1, c1⟩ := Go.Deep.hone_of hone 1 f1 rfl
  obtain ⟨o2, c2⟩ := Go.Deep.hone_of hone 2 f2 rfl
  obtain ⟨o3, c3⟩ := Go.Deep.hone_of hone 3 f3 rfl
  obtain ⟨y0, y1, y2, y3, k, _, _, g0, g1, g2, g3⟩ := Go.Joins.trod_struct4 he h2
  match cs, hl with
  | [v0, v1, v2, v3], _ =>
    simp [o0, c0] at g0
    simp [o1, c1] at g1
    simp [o2, c2] at g2
    simp [o3, c3] at g3
    obtain ⟨z0, e0, _, w0⟩ := DataW.trod_int k0 g0
    obtain ⟨z1, e1, _, w1⟩ := DataW.trod_int k1 g1
    obtain ⟨z2, e2, _, w2⟩ := DataW.trod_int k2 g2
    obtain ⟨z3, e3, _, w3⟩ := DataW.trod_int k3 g3
    simp at e0 e1 e2 e3
    subst e0 e1 e2 e3
    exact ⟨⟨z0, z1, z2, z3⟩, trivial, rfl⟩
theorem open_qels {t e : TypeId} {f0 f1 f2 f3 : Field} (ht : P.underlying t = some (.slice e)) (he : P.underlying e = some (.struct #[f0, f1, f2, f3])) (ce : P.cellsOf e = 4) (hone : Go.Deep.oneCellFields P #[f0, f1, f2, f3] = true)
    (k0 : P.underlying f0.type = some (.int .i64)) (k1 : P.underlying f1.type = some (.int .i64)) (k2 : P.underlying f2.type = some (.int .i64)) (k3 : P.underlying f3.type = some (.int .i64))
    {a : Option Addr} {len cap : Nat} {d : DataW H} {p : List MemPlace} (h : DataW.Trod enc P W 0 (fun _ => true) true t (.slice a len cap) d p) : ∃ zs, IsQs W a len cap zs := by
  obtain ⟨zs, h1, h2, h3, h4, _, h6⟩ := open_gen QE.cells 4 (fun _ => rfl) (by decide) (fun _ => True) ht ce (elem_q he hone k0 k1 k2 k3) h
  exact ⟨zs, h1, h2, h3, h4, h6⟩
theorem flatMap_one {α : Type} (f : α → Value) (l : List α) : l.flatMap (fun a => [f a]) = l.map f := by
  induction l with
  | nil => rfl
  | cons a l ih => simp [List.flatMap_cons, ih]
theorem open_qss {t t1 e : TypeId} {f0 f1 f2 f3 : Field} (ht : P.underlying t = some (.slice t1)) (c1 : P.cellsOf t1 = 1) (ht1 : P.underlying t1 = some (.slice e)) (he : P.underlying e = some (.struct #[f0, f1, f2, f3])) (ce : P.cellsOf e = 4) (hone : Go.Deep.oneCellFields P #[f0, f1, f2, f3] = true)
    (k0 : P.underlying f0.type = some (.int .i64)) (k1 : P.underlying f1.type = some (.int .i64)) (k2 : P.underlying f2.type = some (.int .i64)) (k3 : P.underlying f3.type = some (.int .i64))
    {a : Option Addr} {len cap : Nat} {d : DataW H} {p : List MemPlace} (h : DataW.Trod enc P W 0 (fun _ => true) true t (.slice a len cap) d p) : ∃ ss, IsQss W a len cap ss := by
  obtain ⟨ss, h1, h2, h3, h4, h5, h6⟩ := open_gen (fun s : QS => [s.val]) 1 (fun _ => rfl) (by decide) (fun s : QS => IsQs W s.a s.l s.c s.zs) ht c1 (by
    intro n cs x hl h2
    match cs, hl with
    | [v], _ =>
      have hs : ∃ ca cl cc, v = .slice ca cl cc := by
        rcases Go.Deep.open_slice ht1 h2 with ⟨hcs, _⟩ | ⟨x3, l3, c3', _, _, _, _, hcs, _⟩
        · simp at hcs
          exact ⟨_, _, _, hcs⟩
        · simp at hcs
          exact ⟨_, _, _, hcs⟩
      obtain ⟨ca, cl, cc, rfl⟩ := hs
      obtain ⟨zs, hz⟩ := open_qels (P := P) (W := W) (enc := enc) ht1 he ce hone k0 k1 k2 k3 (a := ca) (len := cl) (cap := cc) ⟨n, by simpa [Value.cells] using h2⟩
      exact ⟨⟨ca, cl, cc, zs⟩, hz, rfl⟩) h
  rw [flatMap_one] at h6
  exact ⟨ss, h1, h2, h3, h4, h5, h6⟩
end
end Go.Proofs.YtlaghkppjdphnaaFmt
