/- Inputs that are slices of structs of three integers and a slice of strings, opened; and fodders in memory, read as plain data. -/
import Derived.Test.YtlaghkppjdphnaaFmtArgs
import Derived.Test.YtlaghkppjdphnaaFmtFod
import Derived.Deep.Slices
import Derived.Lib.SmallJoins
namespace Go.Proofs.YtlaghkppjdphnaaFmt
open Go.RowKit Go.ChangeShapes Go.WideShapes
set_option linter.unusedVariables false

/-! ### rows of structs -/

theorem flat_len {α : Type} (f : α → List Value) (s : Nat) (hs : ∀ a, (f a).length = s) (es : List α) : (es.flatMap f).length = es.length * s := by
  induction es with
  | nil => simp
  | cons e es ih => rw [List.flatMap_cons, List.length_append, ih, hs, List.length_cons, Nat.add_mul, Nat.one_mul, Nat.add_comm]
theorem flat_at {α : Type} (f : α → List Value) (s : Nat) (hs : ∀ a, (f a).length = s) (es : List α) : ∀ (i j : Nat) (e : α), es[i]? = some e → j < s → (es.flatMap f)[i * s + j]? = (f e)[j]? := by
  induction es with
  | nil => intro i j e h; simp at h
  | cons x es ih =>
    intro i j e h hj
    rw [List.flatMap_cons]
    cases i with
    | zero =>
      simp only [List.getElem?_cons_zero, Option.some.injEq] at h
      subst h
      rw [List.getElem?_append_left (by rw [hs]; omega)]
      simp
    | succ i =>
      simp only [List.getElem?_cons_succ] at h
      have e1 : (i + 1) * s = i * s + s := Nat.succ_mul i s
      rw [List.getElem?_append_right (by rw [hs, e1]; omega), hs, ← ih i j e h hj]
      congr 1
      rw [e1]
      omega

/-! ### inputs -/

structure ZE where
  kind : Int
  blanks : Int
  indent : Int
  ca : Option Addr
  cl : Nat
  cc : Nat
  ss : List ByteArray
def ZE.cells (z : ZE) : List Value := [.int .i64 z.kind, .int .i64 z.blanks, .int .i64 z.indent, .slice z.ca z.cl z.cc]
def cellsZ (zs : List ZE) : List Value := zs.flatMap ZE.cells
theorem cellsZ_len (zs : List ZE) : (cellsZ zs).length = zs.length * 4 := flat_len ZE.cells 4 (fun _ => rfl) zs
theorem cellsZ_at (zs : List ZE) (i j : Nat) (z : ZE) (h : zs[i]? = some z) (hj : j < 4) : (cellsZ zs)[i * 4 + j]? = z.cells[j]? := flat_at ZE.cells 4 (fun _ => rfl) zs i j z h hj

/-- An element that came in. -/
def ZE.Ok (w : World) (z : ZE) : Prop := (Lit.int .i64 z.kind).wf = true ∧ (Lit.int .i64 z.blanks).wf = true ∧ (Lit.int .i64 z.indent).wf = true ∧ IsStrs w z.ca z.cl z.cc z.ss
/-- A slice of elements that came in. -/
def IsZs (w : World) (a : Option Addr) (len cap : Nat) (zs : List ZE) : Prop :=
  zs.length = len ∧ len ≤ cap ∧ cap ≤ maxLen ∧ (a = none → cap = 0) ∧ (∀ z ∈ zs, z.Ok w) ∧ Rd w w.heap.size a (cellsZ zs)
theorem IsStrs.below {w w' : World} {a : Option Addr} {n c : Nat} {zs : List ByteArray} (h : IsStrs w a n c zs) (hb : Below w.heap.size w w') : IsStrs w' a n c zs :=
  ⟨h.1, h.2.1, h.2.2.1, h.2.2.2.1, h.2.2.2.2.1, (h.2.2.2.2.2.below hb).mono hb.size⟩
theorem IsZs.below {w w' : World} {a : Option Addr} {n c : Nat} {zs : List ZE} (h : IsZs w a n c zs) (hb : Below w.heap.size w w') : IsZs w' a n c zs :=
  ⟨h.1, h.2.1, h.2.2.1, h.2.2.2.1, fun z hz => ⟨(h.2.2.2.2.1 z hz).1, (h.2.2.2.2.1 z hz).2.1, (h.2.2.2.2.1 z hz).2.2.1, (h.2.2.2.2.1 z hz).2.2.2.below hb⟩, (h.2.2.2.2.2.below hb).mono hb.size⟩
/-- The four cells of element k. -/
theorem IsZs.at {w : World} {a : Option Addr} {n c : Nat} {zs : List ZE} (h : Rd w w.heap.size a (cellsZ zs)) {k : Nat} {z : ZE} (hz : zs[k]? = some z) :
    ∃ b off, a = some ⟨b, off, none⟩ ∧ b < w.heap.size ∧ w.cell? ⟨b, off + k * 4, none⟩ = some (.int .i64 z.kind) ∧ w.cell? ⟨b, off + k * 4 + 1, none⟩ = some (.int .i64 z.blanks) ∧ w.cell? ⟨b, off + k * 4 + 2, none⟩ = some (.int .i64 z.indent) ∧ w.cell? ⟨b, off + k * 4 + 3, none⟩ = some (.slice z.ca z.cl z.cc) := by
  have hk : k < zs.length := (List.getElem?_eq_some_iff.1 hz).1
  obtain ⟨b, off, ha, hb, hc⟩ := h.pos (by rw [cellsZ_len]; omega)
  refine ⟨b, off, ha, hb, ?_, ?_, ?_, ?_⟩
  · exact hc (k * 4) _ (cellsZ_at zs k 0 z hz (by omega))
  · exact hc (k * 4 + 1) _ (cellsZ_at zs k 1 z hz (by omega))
  · exact hc (k * 4 + 2) _ (cellsZ_at zs k 2 z hz (by omega))
  · exact hc (k * 4 + 3) _ (cellsZ_at zs k 3 z hz (by omega))

section
variable {H : Type} {enc : TypeId × Value → H} {P : Program} {W : World}

theorem open_zels {t e : TypeId} {f0 f1 f2 f3 : Field} {s9 : TypeId} (ht : P.underlying t = some (.slice e)) (he : P.underlying e = some (.struct #[f0, f1, f2, f3])) (ce : P.cellsOf e = 4) (hone : Go.Deep.oneCellFields P #[f0, f1, f2, f3] = true)
    (k0 : P.underlying f0.type = some (.int .i64)) (k1 : P.underlying f1.type = some (.int .i64)) (k2 : P.underlying f2.type = some (.int .i64)) (k3 : P.underlying f3.type = some (.slice s9)) (k9 : P.underlying s9 = some .string) (c9 : P.cellsOf s9 = 1)
    {a : Option Addr} {len cap : Nat} {d : DataW H} {p : List MemPlace} (h : DataW.Trod enc P W 0 (fun _ => true) true t (.slice a len cap) d p) : ∃ zs, IsZs W a len cap zs := by
  obtain ⟨o0, c0⟩ := Go.Deep.hone_of hone 0 f0 rfl
  obtain ⟨o1, c1⟩ := Go.Deep.hone_of hone 1 f1 rfl
  obtain ⟨o2, c2⟩ := Go.Deep.hone_of hone 2 f2 rfl
  obtain ⟨o3, c3⟩ := Go.Deep.hone_of hone 3 f3 rfl
  obtain ⟨fuel, hf⟩ := h
  rcases Go.Deep.open_slice ht hf with ⟨hcs, _⟩ | ⟨x, l, c, m, n, D, Pl, hcs, _, hl, hm, hmm, _, hx⟩
  · simp [Value.cells] at hcs
    obtain ⟨rfl, rfl, rfl⟩ := hcs
    exact ⟨[], rfl, Nat.le_refl _, Nat.zero_le _, fun _ => rfl, by simp, .inl rfl⟩
  simp [Value.cells] at hcs
  obtain ⟨rfl, rfl, rfl⟩ := hcs
  simp only [if_true] at hmm
  subst hmm
  have each : ∀ i, i < len → ∃ z : ZE, z.Ok W ∧ ∀ j u, z.cells[j]? = some u → W.cell? (x.add (i * 4 + j)) = some u := by
    intro i hi
    obtain ⟨cs', h1, h2⟩ := hx i (by omega)
    rw [ce] at h1
    obtain ⟨_, hlen, hcell⟩ := World.cells?_some h1
    obtain ⟨y0, y1, y2, y3, k, _, _, g0, g1, g2, g3⟩ := Go.Joins.trod_struct4 he h2
    match cs', hlen with
    | [v0, v1, v2, v3], _ =>
      simp [o0, c0] at g0
      simp [o1, c1] at g1
      simp [o2, c2] at g2
      simp [o3, c3] at g3
      obtain ⟨z0, e0, _, w0⟩ := DataW.trod_int k0 g0
      obtain ⟨z1, e1, _, w1⟩ := DataW.trod_int k1 g1
      obtain ⟨z2, e2, _, w2⟩ := DataW.trod_int k2 g2
      simp at e0 e1 e2
      subst e0 e1 e2
      have hs3 : ∃ ca cl cc, v3 = .slice ca cl cc := by
        rcases Go.Deep.open_slice k3 g3 with ⟨hcs, _⟩ | ⟨x3, l3, c3', _, _, _, _, hcs, _⟩
        · simp at hcs
          exact ⟨_, _, _, hcs⟩
        · simp at hcs
          exact ⟨_, _, _, hcs⟩
      obtain ⟨ca, cl, cc, rfl⟩ := hs3
      obtain ⟨ss, hss⟩ := open_strsR (P := P) (W := W) (enc := enc) k3 k9 c9 (a := ca) (len := cl) (cap := cc) ⟨k, by simpa [Value.cells] using g3⟩
      refine ⟨⟨z0, z1, z2, ca, cl, cc, ss⟩, ⟨w0, w1, w2, hss⟩, fun j u hu => ?_⟩
      have hj : j < 4 := (List.getElem?_eq_some_iff.1 hu).1
      have := hcell j hj
      rw [Go.Deep.add_add] at this
      rw [this]
      exact hu
  have mk : ∀ n, n ≤ len → ∃ zs : List ZE, zs.length = n ∧ ∀ i z, zs[i]? = some z → z.Ok W ∧ ∀ j u, z.cells[j]? = some u → W.cell? (x.add (i * 4 + j)) = some u := by
    intro n
    induction n with
    | zero => intro _; exact ⟨[], rfl, fun i z h => by simp at h⟩
    | succ n ih =>
      intro hn
      obtain ⟨zs, hzl, hz⟩ := ih (by omega)
      obtain ⟨z, hz0, hz1⟩ := each n (by omega)
      refine ⟨zs ++ [z], by simp [hzl], fun i z' hi => ?_⟩
      rcases Nat.lt_or_ge i n with hlt | hge
      · rw [List.getElem?_append_left (by omega)] at hi
        exact hz i z' hi
      · have hlt := (List.getElem?_eq_some_iff.1 hi).1
        simp [hzl] at hlt
        obtain rfl : i = n := by omega
        rw [List.getElem?_append_right (by omega), hzl, Nat.sub_self] at hi
        simp at hi
        subst hi
        exact ⟨hz0, hz1⟩
  obtain ⟨zs, hzl, hz⟩ := mk len (Nat.le_refl _)
  refine ⟨zs, hzl, hl, hm, (by intro h; cases h), fun z hm => ?_, rd_of_cells fun i u hu => ?_⟩
  · obtain ⟨i, hi⟩ := List.getElem?_of_mem hm
    exact (hz i z hi).1
  · have hi : i < zs.length * 4 := by have := (List.getElem?_eq_some_iff.1 hu).1; rwa [cellsZ_len] at this
    obtain ⟨z, hzi⟩ : ∃ z, zs[i / 4]? = some z := ⟨zs[i / 4]'(by omega), by simp⟩
    have e : i / 4 * 4 + i % 4 = i := by omega
    have := cellsZ_at zs (i / 4) (i % 4) z hzi (Nat.mod_lt _ (by decide))
    rw [e, hu] at this
    have := (hz _ z hzi).2 (i % 4) u this.symm
    rwa [e] at this
end
end Go.Proofs.YtlaghkppjdphnaaFmt
