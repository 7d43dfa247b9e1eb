/- zzBuildArgs: arguments built anew. -/
import Derived.Test.YtlaghkppjdphnaaFmtArf
import Derived.Test.YtlaghkppjdphnaaFmtPbl
import Derived.Deep.RegionHeld3
namespace Go.Proofs.YtlaghkppjdphnaaFmt
open Go.RowKit
set_option linter.unusedVariables false

theorem flatten_at (s : Nat) : ∀ (rows : List (List Value)), (∀ r ∈ rows, r.length = s) → ∀ (i j : Nat) (r : List Value), rows[i]? = some r → j < s → rows.flatten[i * s + j]? = r[j]? := by
  intro rows
  induction rows with
  | nil => intro _ i j r h; simp at h
  | cons x rows ih =>
    intro hs i j r h hj
    have hx := hs x (by simp)
    cases i with
    | zero =>
      simp at h
      subst h
      rw [List.flatten_cons, Nat.zero_mul, Nat.zero_add, List.getElem?_append_left (by omega)]
    | succ i =>
      simp only [List.getElem?_cons_succ] at h
      rw [List.flatten_cons, Nat.succ_mul, List.getElem?_append_right (by omega), hx, show i * s + s + j - s = i * s + j by omega]
      exact ih (fun r hr => hs r (by simp [hr])) i j r h hj
theorem flatten_set (s : Nat) : ∀ (rows : List (List Value)), (∀ r ∈ rows, r.length = s) → ∀ (i j : Nat) (r : List Value) (u : Value), rows[i]? = some r → j < s → rows.flatten.set (i * s + j) u = (rows.set i (r.set j u)).flatten := by
  intro rows
  induction rows with
  | nil => intro _ i j r u h; simp at h
  | cons x rows ih =>
    intro hs i j r u h hj
    have hx := hs x (by simp)
    cases i with
    | zero =>
      simp at h
      subst h
      rw [List.flatten_cons, Nat.zero_mul, Nat.zero_add, List.set_append_left _ _ (by omega), List.set_cons_zero, List.flatten_cons]
    | succ i =>
      simp only [List.getElem?_cons_succ] at h
      rw [List.flatten_cons, Nat.succ_mul, List.set_append_right _ _ (by omega), hx, show i * s + s + j - s = i * s + j by omega, List.set_cons_succ, List.flatten_cons]
      rw [ih (fun r hr => hs r (by simp [hr])) i j r u h hj]
/-- A made row filled from its head: rows of cells. -/
def rowsP {α : Type} (f : α → List Value) (z : List Value) (l : List α) (n : Nat) : List (List Value) := l.map f ++ List.replicate (n - l.length) z
theorem rowsP_at {α : Type} (f : α → List Value) (z : List Value) (l : List α) (n k : Nat) (hl : l.length = k) (hk : k < n) : (rowsP f z l n)[k]? = some z := by
  unfold rowsP
  rw [List.getElem?_append_right (by simp; omega), List.getElem?_replicate]
  simp
  omega
theorem rowsP_set {α : Type} (f : α → List Value) (z : List Value) (l : List α) (n k : Nat) (a : α) (hl : l.length = k) (hk : k < n) : (rowsP f z l n).set k (f a) = rowsP f z (l ++ [a]) n := by
  unfold rowsP
  subst hl
  rw [List.set_append_right _ _ (by simp), List.length_map, Nat.sub_self, List.map_append, List.append_assoc]
  congr 1
  rw [show n - l.length = (n - (l.length + 1)) + 1 by omega, List.replicate_succ, List.set_cons_zero]
  simp
theorem rowsP_full {α : Type} (f : α → List Value) (z : List Value) (l : List α) (n : Nat) (h : l.length = n) : (rowsP f z l n).flatten = l.flatMap f := by
  unfold rowsP
  rw [h, Nat.sub_self, List.replicate_zero, List.append_nil]
  rfl
theorem rowsP_len {α : Type} (f : α → List Value) (z : List Value) (s : Nat) (hf : ∀ a, (f a).length = s) (hz : z.length = s) (l : List α) (n : Nat) : ∀ r ∈ rowsP f z l n, r.length = s := by
  intro r hr
  rcases List.mem_append.1 hr with h | h
  · obtain ⟨a, _, rfl⟩ := List.mem_map.1 h
    exact hf a
  · rw [(List.mem_replicate.1 h).2]
    exact hz
theorem made_rowsP {α : Type} (f : α → List Value) (z : List Value) (s n : Nat) (hz : z.length = s) (hp : 0 < s) : madeCells z.toArray (n * s) = (rowsP f z ([] : List α) n).flatten.toArray := by
  rw [made_flat (fun _ : Unit => z) s (fun _ => hz) hp () n]
  unfold rowsP
  simp [List.flatMap]
/-- One cell of row k set. -/
theorem rowsP_one {α : Type} (f : α → List Value) (z : List Value) (s : Nat) (hf : ∀ a, (f a).length = s) (hz : z.length = s) (l : List α) (n k j : Nat) (a : α) (u : Value) (hl : l.length = k) (hk : k < n) (hj : j < s) (h : z.set j u = f a) :
    (rowsP f z l n).flatten.set (k * s + j) u = (rowsP f z (l ++ [a]) n).flatten := by
  rw [flatten_set s _ (rowsP_len f z s hf hz l n) k j z u (rowsP_at f z l n k hl hk) hj, h, rowsP_set f z l n k a hl hk]
def litRow (ln : Nat) : List Value := [.pointer (some ⟨ln, 0, none⟩)]
def zA : List Value := [.nilIface, .slice none 0 0]
def zL : List Value := [.pointer none]
def zN : List Value := [.slice none 0 0, .string ⟨#[]⟩, .slice none 0 0, .nilIface, .slice none 0 0]
def outC (n m : Nat) (a b c : Nat) : Array Value := #[.slice (some ⟨a, 0, none⟩) n n, .slice (some ⟨b, 0, none⟩) m m, .slice (some ⟨c, 0, none⟩) n n]

theorem infA1 : (Tryf.prog.info? 101).map (fun i => (i.zero, i.size, i.bytes)) = some (some (.agg #[.nilIface, .slice none 0 0]), 2, 40) := by kernel_rfl
theorem infA2 : (Tryf.prog.info? 26).map (fun i => (i.zero, i.size, i.bytes)) = some (some (.pointer none), 1, 8) := by kernel_rfl
theorem infA3 : (Tryf.prog.info? 83).map (fun i => (i.zero, i.size, i.bytes)) = some (some (.agg #[.slice none 0 0, .string ⟨#[]⟩, .slice none 0 0, .nilIface, .slice none 0 0]), 5, 104) := by kernel_rfl
theorem infA4 : (Tryf.prog.info? 78).map (fun i => (i.zero, i.size, i.bytes)) = some (some (.agg #[.slice none 0 0, .slice none 0 0, .slice none 0 0]), 3, 72) := by kernel_rfl

/-- Positional arguments under way: k of n are laid. -/
structure PosS (wr : World) (B n k : Nat) (ss : List QS) (lns : List Nat) (vs : List Value) : Prop where
  l1 : lns.length = k
  l2 : vs.length = k
  a : Blk wr (B + 1 + 1) 101 (rowsP acs zA lns n).flatten.toArray
  l : Blk wr (B + 1 + 1 + 1) 26 (rowsP litRow zL lns n).flatten.toArray
  o : Blk wr (B + 1) 78 #[.slice (some ⟨B + 1 + 1, 0, none⟩) n n, .slice none 0 0, .slice (some ⟨B + 1 + 1 + 1, 0, none⟩) n n]
  u : Blk wr B 78 #[.slice none 0 0, .slice none 0 0, .slice none 0 0]
  lit : ∀ (i ln : Nat) (v : Value), lns[i]? = some ln → vs[i]? = some v → Blk wr ln 42 (nullC v)
  rl : ∀ ln ∈ lns, B + 3 < ln ∧ ln < wr.heap.size
  dj : lns.Nodup
  fp : ∀ (i : Nat) (v : Value) (s : QS), vs[i]? = some v → ss[i]? = some s → FodC wr (fun b => B + 3 < b ∧ b < wr.heap.size ∧ b ∉ lns) v (inQ s.a s.zs)
theorem PosS.zero (w : World) (n : Nat) (ss : List QS) {CA CL : Array Value} (hA : CA = (rowsP acs zA [] n).flatten.toArray) (hL : CL = (rowsP litRow zL [] n).flatten.toArray) :
    PosS ((((w.alloc (.cells #[.slice none 0 0, .slice none 0 0, .slice none 0 0] 78)).alloc (.cells #[.slice (some ⟨w.heap.size + 1 + 1, 0, none⟩) n n, .slice none 0 0, .slice (some ⟨w.heap.size + 1 + 1 + 1, 0, none⟩) n n] 78)).alloc (.cells CA 101)).alloc (.cells CL 26)) w.heap.size n 0 ss [] [] := by
  subst hA hL
  have b0 := Blk.new w 78 #[.slice none 0 0, .slice none 0 0, .slice none 0 0]
  have b1 := Blk.new (w.alloc (.cells #[.slice none 0 0, .slice none 0 0, .slice none 0 0] 78)) 78 #[.slice (some ⟨w.heap.size + 1 + 1, 0, none⟩) n n, .slice none 0 0, .slice (some ⟨w.heap.size + 1 + 1 + 1, 0, none⟩) n n]
  rw [size1] at b1
  have b2 := Blk.new ((w.alloc (.cells #[.slice none 0 0, .slice none 0 0, .slice none 0 0] 78)).alloc (.cells #[.slice (some ⟨w.heap.size + 1 + 1, 0, none⟩) n n, .slice none 0 0, .slice (some ⟨w.heap.size + 1 + 1 + 1, 0, none⟩) n n] 78)) 101 (rowsP acs zA [] n).flatten.toArray
  rw [size1, size1] at b2
  have b3 := Blk.new (((w.alloc (.cells #[.slice none 0 0, .slice none 0 0, .slice none 0 0] 78)).alloc (.cells #[.slice (some ⟨w.heap.size + 1 + 1, 0, none⟩) n n, .slice none 0 0, .slice (some ⟨w.heap.size + 1 + 1 + 1, 0, none⟩) n n] 78)).alloc (.cells (rowsP acs zA [] n).flatten.toArray 101)) 26 (rowsP litRow zL [] n).flatten.toArray
  rw [size1, size1, size1] at b3
  exact ⟨rfl, rfl, b2.alloc _, b3, (b1.alloc _).alloc _, ((b0.alloc _).alloc _).alloc _, fun i ln v h => by simp at h, fun ln h => by simp at h, List.nodup_nil, fun i v s h => by simp at h⟩
theorem PosS.step {wr w2 : World} {B n k : Nat} {ss : List QS} {lns : List Nat} {vs : List Value} {s : QS} {v : Value} (h : PosS wr B n k ss lns vs) (hb : Below wr.heap.size wr w2) (hs : ss[k]? = some s) (hv : FodC w2 (New wr w2) v (inQ s.a s.zs)) (hk : k < n) :
    PosS (((w2.setCell ⟨B + 1 + 1 + 1, k, none⟩ (.pointer (some ⟨w2.heap.size, 0, none⟩))).setCell ⟨B + 1 + 1, k * 2, none⟩ (.iface 26 (.pointer (some ⟨w2.heap.size, 0, none⟩)))).alloc (.cells (nullC v) 42)) B n (k + 1) ss (lns ++ [w2.heap.size]) (vs ++ [v]) := by
  obtain ⟨l1, l2, a, l, o, u, lit, rl, dj, fp⟩ := h
  have hlt := l.lt
  have hsz := hb.size
  have hfr : Fr w2 (((w2.setCell ⟨B + 1 + 1 + 1, k, none⟩ (.pointer (some ⟨w2.heap.size, 0, none⟩))).setCell ⟨B + 1 + 1, k * 2, none⟩ (.iface 26 (.pointer (some ⟨w2.heap.size, 0, none⟩)))).alloc (.cells (nullC v) 42)) (fun b => b ≤ B + 3) :=
    ((((Fr.refl w2 _).setCell _ _ (.inl (by show B + 1 + 1 + 1 ≤ B + 3; omega))).setCell _ _ (.inl (by show B + 1 + 1 ≤ B + 3; omega))).alloc _)
  have hfr2 : Fr wr (((w2.setCell ⟨B + 1 + 1 + 1, k, none⟩ (.pointer (some ⟨w2.heap.size, 0, none⟩))).setCell ⟨B + 1 + 1, k * 2, none⟩ (.iface 26 (.pointer (some ⟨w2.heap.size, 0, none⟩)))).alloc (.cells (nullC v) 42)) (fun b => b ≤ B + 3) := (Fr.of_below hb _).trans hfr
  have hsw : (((w2.setCell ⟨B + 1 + 1 + 1, k, none⟩ (.pointer (some ⟨w2.heap.size, 0, none⟩))).setCell ⟨B + 1 + 1, k * 2, none⟩ (.iface 26 (.pointer (some ⟨w2.heap.size, 0, none⟩)))).alloc (.cells (nullC v) 42)).heap.size = w2.heap.size + 1 := by simp
  refine ⟨by simp [l1], by simp [l2], ?_, ?_, ?_, ?_, ?_, ?_, ?_, ?_⟩
  · have := (((a.under hb).far (p := ⟨B + 1 + 1 + 1, k, none⟩) (by show B + 1 + 1 ≠ B + 1 + 1 + 1; omega) (.pointer (some ⟨w2.heap.size, 0, none⟩))).set (k * 2) (.iface 26 (.pointer (some ⟨w2.heap.size, 0, none⟩)))).alloc (.cells (nullC v) 42)
    rw [List.setIfInBounds_toArray, ← Nat.add_zero (k * 2), rowsP_one acs zA 2 (fun _ => rfl) rfl lns n k 0 w2.heap.size _ l1 hk (by omega) (by rfl), Nat.add_zero] at this
    exact this
  · have := (((l.under hb).set k (.pointer (some ⟨w2.heap.size, 0, none⟩))).far (p := ⟨B + 1 + 1, k * 2, none⟩) (by show B + 1 + 1 + 1 ≠ B + 1 + 1; omega) (.iface 26 (.pointer (some ⟨w2.heap.size, 0, none⟩)))).alloc (.cells (nullC v) 42)
    have e := rowsP_one litRow zL 1 (fun _ => rfl) rfl lns n k 0 w2.heap.size (.pointer (some ⟨w2.heap.size, 0, none⟩)) l1 hk (by omega) (by rfl)
    rw [Nat.mul_one, Nat.add_zero] at e
    rw [List.setIfInBounds_toArray, e] at this
    exact this
  · exact (((o.under hb).far (by show B + 1 ≠ B + 1 + 1 + 1; omega) _).far (by show B + 1 ≠ B + 1 + 1; omega) _).alloc _
  · exact (((u.under hb).far (by show B ≠ B + 1 + 1 + 1; omega) _).far (by show B ≠ B + 1 + 1; omega) _).alloc _
  · intro i ln v' h1 h2
    rcases Nat.lt_or_ge i k with hi | hi
    · rw [List.getElem?_append_left (by omega)] at h1 h2
      have := rl ln (List.mem_of_getElem? h1)
      exact hfr2.blk (lit i ln v' h1 h2) (by omega)
    · have hlen := (List.getElem?_eq_some_iff.1 h1).1
      simp [l1] at hlen
      obtain rfl : i = k := by omega
      rw [List.getElem?_append_right (by omega), l1, Nat.sub_self] at h1
      rw [List.getElem?_append_right (by omega), l2, Nat.sub_self] at h2
      simp at h1 h2
      subst h1 h2
      have := Blk.new ((w2.setCell ⟨B + 1 + 1 + 1, i, none⟩ (.pointer (some ⟨w2.heap.size, 0, none⟩))).setCell ⟨B + 1 + 1, i * 2, none⟩ (.iface 26 (.pointer (some ⟨w2.heap.size, 0, none⟩)))) 42 (nullC v)
      simpa using this
  · intro ln h1
    rw [hsw]
    rcases List.mem_append.1 h1 with h | h
    · have := rl ln h
      omega
    · simp at h
      omega
  · refine List.nodup_append.2 ⟨dj, by simp, fun x hx y hy => ?_⟩
    simp at hy
    have := rl x hx
    omega
  · intro i v' s' h1 h2
    rcases Nat.lt_or_ge i k with hi | hi
    · rw [List.getElem?_append_left (by omega)] at h1
      refine ((fp i v' s' h1 h2).keep (hfr2.agree fun b hb => ⟨hb.2.1, by have := hb.1; omega⟩)).sub fun b hb => ⟨hb.1, by rw [hsw]; have := hb.2.1; omega, fun hm => ?_⟩
      rcases List.mem_append.1 hm with h | h
      · exact hb.2.2 h
      · simp at h
        have := hb.2.1
        omega
    · have hlen := (List.getElem?_eq_some_iff.1 h1).1
      simp [l2] at hlen
      obtain rfl : i = k := by omega
      rw [List.getElem?_append_right (by omega), l2, Nat.sub_self] at h1
      simp at h1
      subst h1
      rw [hs] at h2
      obtain rfl := Option.some.inj h2
      refine (hv.keep (hfr.agree fun b hb => ⟨hb.2, by have := hb.1; omega⟩)).sub fun b hb => ⟨by have := hb.1; omega, by rw [hsw]; have := hb.2; omega, fun hm => ?_⟩
      rcases List.mem_append.1 hm with h | h
      · have := rl b h
        have := hb.1
        omega
      · simp at h
        have := hb.2
        omega
/-- Named arguments under way: k of n are laid in the row g. -/
structure NamS (wr : World) (g n k : Nat) (ts : List QS) (us : List (Value × Nat)) : Prop where
  l1 : us.length = k
  n : Blk wr g 83 (rowsP ncs zN us n).flatten.toArray
  mit : ∀ (i : Nat) (p : Value × Nat), us[i]? = some p → Blk wr p.2 42 (nullC (.slice none 0 0)) ∧ g < p.2 ∧ p.2 < wr.heap.size
  fn : ∀ (i : Nat) (p : Value × Nat) (s : QS), us[i]? = some p → ts[i]? = some s → FodC wr (fun b => g < b ∧ b < wr.heap.size) p.1 (inQ s.a s.zs)
set_option maxHeartbeats 1600000 in
theorem NamS.step {wr w2 : World} {g n k : Nat} {ts : List QS} {us : List (Value × Nat)} {s : QS} {v : Value} (h : NamS wr g n k ts us) (hb : Below wr.heap.size wr w2) (hs : ts[k]? = some s) (hv : FodC w2 (New wr w2) v (inQ s.a s.zs)) (hk : k < n) :
    NamS (((w2.setCell ⟨g, k * 5, none⟩ v).setCell ⟨g, k * 5 + 3, none⟩ (.iface 26 (.pointer (some ⟨w2.heap.size, 0, none⟩)))).alloc (.cells (nullC (.slice none 0 0)) 42)) g n (k + 1) ts (us ++ [(v, w2.heap.size)]) := by
  obtain ⟨l1, a, mit, fn⟩ := h
  have hlt := a.lt
  have hsz := hb.size
  have hfr : Fr w2 (((w2.setCell ⟨g, k * 5, none⟩ v).setCell ⟨g, k * 5 + 3, none⟩ (.iface 26 (.pointer (some ⟨w2.heap.size, 0, none⟩)))).alloc (.cells (nullC (.slice none 0 0)) 42)) (fun b => b = g) :=
    ((((Fr.refl w2 (fun b => b = g)).setCell ⟨g, k * 5, none⟩ v (.inl rfl)).setCell ⟨g, k * 5 + 3, none⟩ (.iface 26 (.pointer (some ⟨w2.heap.size, 0, none⟩))) (.inl rfl)).alloc (.cells (nullC (.slice none 0 0)) 42))
  have hfr2 : Fr wr (((w2.setCell ⟨g, k * 5, none⟩ v).setCell ⟨g, k * 5 + 3, none⟩ (.iface 26 (.pointer (some ⟨w2.heap.size, 0, none⟩)))).alloc (.cells (nullC (.slice none 0 0)) 42)) (fun b => b = g) := (Fr.of_below hb _).trans hfr
  have hsw : (((w2.setCell ⟨g, k * 5, none⟩ v).setCell ⟨g, k * 5 + 3, none⟩ (.iface 26 (.pointer (some ⟨w2.heap.size, 0, none⟩)))).alloc (.cells (nullC (.slice none 0 0)) 42)).heap.size = w2.heap.size + 1 := by simp
  refine ⟨by simp [l1], ?_, ?_, ?_⟩
  · have := (((a.under hb).set (k * 5) v).set (k * 5 + 3) (.iface 26 (.pointer (some ⟨w2.heap.size, 0, none⟩)))).alloc (.cells (nullC (.slice none 0 0)) 42)
    have hr := rowsP_at ncs zN us n k l1 hk
    have hl := rowsP_len ncs zN 5 (fun _ => rfl) rfl us n
    have e1 := flatten_set 5 _ hl k 0 zN v hr (by omega)
    rw [Nat.add_zero] at e1
    have hkl : k < (rowsP ncs zN us n).length := (List.getElem?_eq_some_iff.1 hr).1
    have hl2 : ∀ r ∈ (rowsP ncs zN us n).set k (zN.set 0 v), r.length = 5 := fun r hr => by
      rcases List.mem_or_eq_of_mem_set hr with h | h
      · exact hl r h
      · rw [h]; rfl
    have e2 := flatten_set 5 _ hl2 k 3 (zN.set 0 v) (.iface 26 (.pointer (some ⟨w2.heap.size, 0, none⟩))) (by simp [hkl]) (by omega)
    rw [List.set_set, show (zN.set 0 v).set 3 (.iface 26 (.pointer (some ⟨w2.heap.size, 0, none⟩))) = ncs (v, w2.heap.size) from rfl, rowsP_set ncs zN us n k (v, w2.heap.size) l1 hk] at e2
    rw [List.setIfInBounds_toArray, List.setIfInBounds_toArray, e1, e2] at this
    exact this
  · intro i p h1
    rw [hsw]
    rcases Nat.lt_or_ge i k with hi | hi
    · rw [List.getElem?_append_left (by omega)] at h1
      obtain ⟨m1, m2, m3⟩ := mit i p h1
      exact ⟨hfr2.blk m1 (by omega), m2, by omega⟩
    · have hlen := (List.getElem?_eq_some_iff.1 h1).1
      simp [l1] at hlen
      obtain rfl : i = k := by omega
      rw [List.getElem?_append_right (by omega), l1, Nat.sub_self] at h1
      simp at h1
      subst h1
      have := Blk.new ((w2.setCell ⟨g, i * 5, none⟩ v).setCell ⟨g, i * 5 + 3, none⟩ (.iface 26 (.pointer (some ⟨w2.heap.size, 0, none⟩)))) 42 (nullC (.slice none 0 0))
      exact ⟨by simpa using this, by show g < w2.heap.size; omega, by show w2.heap.size < w2.heap.size + 1; omega⟩
  · intro i p s' h1 h2
    rcases Nat.lt_or_ge i k with hi | hi
    · rw [List.getElem?_append_left (by omega)] at h1
      exact ((fn i p s' h1 h2).keep (hfr2.agree fun b hb => ⟨hb.2, by have := hb.1; omega⟩)).sub fun b hb => ⟨hb.1, by rw [hsw]; have := hb.2; omega⟩
    · have hlen := (List.getElem?_eq_some_iff.1 h1).1
      simp [l1] at hlen
      obtain rfl : i = k := by omega
      rw [List.getElem?_append_right (by omega), l1, Nat.sub_self] at h1
      simp at h1
      subst h1
      rw [hs] at h2
      obtain rfl := Option.some.inj h2
      exact (hv.keep (hfr.agree fun b hb => ⟨hb.2, by have := hb.1; omega⟩)).sub fun b hb => ⟨by have := hb.1; omega, by rw [hsw]; have := hb.2; omega⟩
theorem NamS.drew {wr : World} {g n k : Nat} {ts : List QS} {us : List (Value × Nat)} (h : NamS wr g n k ts us) : NamS wr.drew g n k ts us := ⟨h.1, h.2, h.3, h.4⟩
theorem cell_far {w : World} {p : Addr} {u : Value} {b o : Nat} {x : Value} (hb : b ≠ p.block) (h : w.cell? ⟨b, o, none⟩ = some x) : (w.setCell p u).cell? ⟨b, o, none⟩ = some x :=
  (World.cell?_of_block (a := ⟨b, o, none⟩) (Below.heap_setCell w p u b hb)).trans h
theorem nrow0 {w : World} {g n k : Nat} {us : List (Value × Nat)} (h : Blk w g 83 (rowsP ncs zN us n).flatten.toArray) (hl : us.length = k) (hk : k < n) : w.cell? ⟨g, k * 5, none⟩ = some (.slice none 0 0) ∧ w.frozen? ⟨g, k * 5, none⟩ = false ∧ w.cell? ⟨g, k * 5 + 3, none⟩ = some .nilIface ∧ w.frozen? ⟨g, k * 5 + 3, none⟩ = false := by
  refine ⟨?_, h.free _, ?_, h.free _⟩
  · rw [h.cell, List.getElem?_toArray, ← Nat.add_zero (k * 5), flatten_at 5 _ (rowsP_len ncs zN 5 (fun _ => rfl) rfl us n) k 0 zN (rowsP_at ncs zN us n k hl hk) (by omega)]
    rfl
  · rw [h.cell, List.getElem?_toArray, flatten_at 5 _ (rowsP_len ncs zN 5 (fun _ => rfl) rfl us n) k 3 zN (rowsP_at ncs zN us n k hl hk) (by omega)]
    rfl
/-- What zzBuildArgs leaves. -/
structure MadS (w' : World) (B n1 n2 ng : Nat) (ss ts : List QS) (lns : List Nat) (vs : List Value) (us : List (Value × Nat)) : Prop where
  l1 : lns.length = n1
  l2 : vs.length = n1
  l3 : us.length = n2
  a : Blk w' (B + 1 + 1) 101 (cellsA lns).toArray
  l : Blk w' (B + 1 + 1 + 1) 26 (lns.flatMap litRow).toArray
  n : Blk w' ng 83 (cellsN us).toArray
  lit : ∀ (i ln : Nat) (v : Value), lns[i]? = some ln → vs[i]? = some v → Blk w' ln 42 (nullC v)
  mit : ∀ (i : Nat) (p : Value × Nat), us[i]? = some p → Blk w' p.2 42 (nullC (.slice none 0 0)) ∧ ng < p.2 ∧ p.2 < w'.heap.size
  rl : ∀ ln ∈ lns, B + 3 < ln ∧ ln < ng
  dj : lns.Nodup
  fp : ∀ (i : Nat) (v : Value) (s : QS), vs[i]? = some v → ss[i]? = some s → FodC w' (fun b => B + 3 < b ∧ b < ng ∧ b ∉ lns) v (inQ s.a s.zs)
  fn : ∀ (i : Nat) (p : Value × Nat) (s : QS), us[i]? = some p → ts[i]? = some s → FodC w' (fun b => ng < b ∧ b < w'.heap.size) p.1 (inQ s.a s.zs)
theorem mad_of {wo W0 wp : World} {B n1 n2 : Nat} {ss ts : List QS} {lns : List Nat} {vs : List Value} {us : List (Value × Nat)} {CN : Array Value} {x0 x1 x2 x3 : Value} (h : PosS wo B n1 n1 ss lns vs) (k : NamS wp wo.heap.size n2 n2 ts us) (hW : W0 = (wo.setCell ⟨B + 1, 1, none⟩ x3).alloc (.cells CN 83)) (hb : Below wo.heap.size W0 wp) (hg : B + 3 < wo.heap.size) :
    MadS (((wp.setCell ⟨B, 0, none⟩ x0).setCell ⟨B, 1, none⟩ x1).setCell ⟨B, 2, none⟩ x2) B n1 n2 wo.heap.size ss ts lns vs us := by
  have hsz := hb.size
  have hs0 : W0.heap.size = wo.heap.size + 1 := by rw [hW]; simp
  have frA : Fr wo W0 (fun b => b ≤ B + 1 ∨ b = wo.heap.size) := by
    rw [hW]
    exact ((Fr.refl wo (fun b => b ≤ B + 1 ∨ b = wo.heap.size)).setCell ⟨B + 1, 1, none⟩ x3 (.inl (.inl (Nat.le_refl _)))).alloc _
  have frB : Fr W0 wp (fun b => b ≤ B + 1 ∨ b = wo.heap.size) := ⟨hb.os, hb.tape, hb.output, hb.size, fun b hb' hx => hb.block b (by omega)⟩
  have frF : Fr wp (((wp.setCell ⟨B, 0, none⟩ x0).setCell ⟨B, 1, none⟩ x1).setCell ⟨B, 2, none⟩ x2) (fun b => b = B) :=
    (((Fr.refl wp (fun b => b = B)).setCell ⟨B, 0, none⟩ x0 (.inl rfl)).setCell ⟨B, 1, none⟩ x1 (.inl rfl)).setCell ⟨B, 2, none⟩ x2 (.inl rfl)
  have frT : Fr wo (((wp.setCell ⟨B, 0, none⟩ x0).setCell ⟨B, 1, none⟩ x1).setCell ⟨B, 2, none⟩ x2) (fun b => b ≤ B + 1 ∨ b = wo.heap.size) :=
    (frA.trans frB).trans (frF.sub fun b hb => .inl (by omega))
  have hsw : (((wp.setCell ⟨B, 0, none⟩ x0).setCell ⟨B, 1, none⟩ x1).setCell ⟨B, 2, none⟩ x2).heap.size = wp.heap.size := by simp
  obtain ⟨l1, l2, a, l, o, u, lit, rl, dj, fp⟩ := h
  obtain ⟨l3, n, mit, fn⟩ := k
  rw [rowsP_full _ _ _ _ l1] at a l
  rw [rowsP_full _ _ _ _ l3] at n
  have hn := n.lt
  refine ⟨l1, l2, l3, frT.blk a (by omega), frT.blk l (by omega), frF.blk n (by omega), fun i ln v h1 h2 => ?_, fun i p h1 => ?_, rl, dj, fun i v s h1 h2 => ?_, fun i p s h1 h2 => ?_⟩
  · have := rl ln (List.mem_of_getElem? h1)
    exact frT.blk (lit i ln v h1 h2) (by omega)
  · obtain ⟨m1, m2, m3⟩ := mit i p h1
    rw [hsw]
    exact ⟨frF.blk m1 (by omega), m2, m3⟩
  · exact (fp i v s h1 h2).keep (frT.agree fun b hb => ⟨hb.2.1, by have := hb.1; have := hb.2.1; omega⟩)
  · rw [hsw]
    exact (fn i p s h1 h2).keep (frF.agree fun b hb => ⟨hb.2, by have := hb.1; omega⟩)
def MadA (w : World) (n1 n2 : Nat) (ss ts : List QS) (e : Ending) (w' : World) : Prop :=
  ∃ ng lns vs us, e = .returned (.agg #[.slice (some ⟨w.heap.size + 1 + 1, 0, none⟩) n1 n1, .slice (some ⟨ng, 0, none⟩) n2 n2, .slice (some ⟨w.heap.size + 1 + 1 + 1, 0, none⟩) n1 n1]) ∧ MadS w' w.heap.size n1 n2 ng ss ts lns vs us ∧ w.heap.size + 3 < ng ∧ Below w.heap.size w w'

set_option maxRecDepth 100000 in
set_option maxHeartbeats 3200000 in
theorem bargs29 (w : World) (a1 : Option Addr) (n1 c1 : Nat) (ss : List QS) (a2 : Option Addr) (n2 c2 : Nat) (ts : List QS) (h1 : IsQss w a1 n1 c1 ss) (h2 : IsQss w a2 n2 c2 ts) (hn1 : n1 ≤ 16384) (hn2 : n2 ≤ 16384) (hl1 : ∀ s ∈ ss, s.l ≤ 16384) (hl2 : ∀ s ∈ ts, s.l ≤ 16384) (hk1 : ∀ s ∈ ss, ∀ z ∈ s.zs, OkQ z) (hk2 : ∀ s ∈ ts, ∀ z ∈ s.zs, OkQ z) :
    Calls Tryf.prog 29 #[.slice a1 n1 c1, .slice a2 n2 c2] w (MadA w n1 n2 ss ts) := by
  have H1 := Lib.hid h1
  have H2 := Lib.hid h2
  have HL1 := Lib.hid hl1
  have HL2 := Lib.hid hl2
  have HK1 := Lib.hid hk1
  have HK2 := Lib.hid hk2
  have hmA : ∀ W, (Instr.makeSlice 72 (.int .i64 (n1 : Int)) (.int .i64 (n1 : Int))).run Tryf.prog W = .ok (.slice (some ⟨W.heap.size, 0, none⟩) n1 n1) (W.alloc (.cells (rowsP acs zA [] n1).flatten.toArray 101)) := by
    obtain ⟨i0, hi, hz0, hz1, hz2⟩ := info_parts infA1
    intro W
    have := run_make_n (P := Tryf.prog) 72 101 i0 _ Tryf.underlying72 hi hz0 .i64 .i64 n1 n1 (Nat.le_refl _) (by rw [hz2]; omega) (by omega) W
    rw [hz1, show (Value.agg #[.nilIface, .slice none 0 0]).cells = zA.toArray by simp [Value.cells, zA], made_rowsP acs zA 2 n1 rfl (by decide)] at this
    exact this
  have hmL : ∀ W, (Instr.makeSlice 76 (.int .i64 (n1 : Int)) (.int .i64 (n1 : Int))).run Tryf.prog W = .ok (.slice (some ⟨W.heap.size, 0, none⟩) n1 n1) (W.alloc (.cells (rowsP litRow zL [] n1).flatten.toArray 26)) := by
    obtain ⟨i0, hi, hz0, hz1, hz2⟩ := info_parts infA2
    intro W
    have := run_make_n (P := Tryf.prog) 76 26 i0 _ Tryf.underlying76 hi hz0 .i64 .i64 n1 n1 (Nat.le_refl _) (by rw [hz2]; omega) (by omega) W
    rw [hz1, show (Value.pointer none).cells = zL.toArray by simp [Value.cells, zL], made_rowsP litRow zL 1 n1 rfl (by decide)] at this
    exact this
  have hmN : ∀ W, (Instr.makeSlice 73 (.int .i64 (n2 : Int)) (.int .i64 (n2 : Int))).run Tryf.prog W = .ok (.slice (some ⟨W.heap.size, 0, none⟩) n2 n2) (W.alloc (.cells (rowsP ncs zN [] n2).flatten.toArray 83)) := by
    obtain ⟨i0, hi, hz0, hz1, hz2⟩ := info_parts infA3
    intro W
    have := run_make_n (P := Tryf.prog) 73 83 i0 _ Tryf.underlying73 hi hz0 .i64 .i64 n2 n2 (Nat.le_refl _) (by rw [hz2]; omega) (by omega) W
    rw [hz1, show (Value.agg #[.slice none 0 0, .string ⟨#[]⟩, .slice none 0 0, .nilIface, .slice none 0 0]).cells = zN.toArray by simp [Value.cells, zN], made_rowsP ncs zN 5 n2 rfl (by decide)] at this
    exact this
  clear h1 h2 hl1 hl2 hk1 hk2
  unfold MadA
  generalize hA : (rowsP acs zA [] n1).flatten.toArray = CA at hmA
  generalize hL : (rowsP litRow zL [] n1).flatten.toArray = CL at hmL
  generalize hN : (rowsP ncs zN [] n2).flatten.toArray = CN at hmN
  have HA := Lib.hid hA
  have HL := Lib.hid hL
  have HN := Lib.hid hN
  clear hA hL hN
  go_enter Tryf.func29, Tryf.ntmps29
  go_wp2_with fail
  go_loopw [6] (fun i wr => ∃ k : Nat, k ≤ n1 ∧ i = .int .i64 k ∧ Hid (∃ lns vs, PosS wr w.heap.size n1 k ss lns vs) ∧ Hid (Below w.heap.size w wr)) (fun i _ => n1 - (intOf i).toNat)
  case atStart => exact ⟨0, Nat.zero_le _, rfl, Lib.hid ⟨[], [], PosS.zero w n1 ss HA.out.symm HL.out.symm⟩, Lib.hid (((((Below.refl w.heap.size w).alloc (Nat.le_refl _) _).alloc (by simp) _).alloc (by simp; omega) _).alloc (by simp; omega) _)⟩
  case round =>
    obtain ⟨k, hk, rfl, hps, hbel⟩ := hrel
    obtain ⟨wo, hwo⟩ : ∃ wo, wo = wr := ⟨_, rfl⟩
    subst hwo
    obtain ⟨lns, vs, hps⟩ := hps.out
    have HP := Lib.hid hps
    by_cases hlt : k < n1
    · obtain ⟨s, hs⟩ : ∃ s, ss[k]? = some s := ⟨ss[k]'(by rw [H1.out.1]; exact hlt), by simp⟩
      obtain ⟨b, off, ha, hbb, x0⟩ := IsQss.at (H1.out.2.2.2.2.2.below hbel.out) hs
      subst ha
      have hm := List.mem_of_getElem? hs
      have KB := Lib.hid (build12 wo s.a s.l s.c s.zs ((H1.out.2.2.2.2.1 s hm).below hbel.out) (HL1.out s hm) (HK1.out s hm))
      have HS := Lib.hid hs
      have hbw : b < wo.heap.size := Nat.lt_of_lt_of_le hbb hbel.out.size
      clear hs hmA hmL hmN hps
      go_wp2_with fail
      refine KB.out.mono ?_
      rintro e w2 ⟨u, rfl, hu, hb2⟩
      obtain ⟨ux, rfl, _, _, _⟩ := hu.open
      have HU := Lib.hid hu
      have HB2 := Lib.hid hb2
      have A2 := HP.out.a.under hb2
      have L2 := HP.out.l.under hb2
      have O2 := HP.out.o.under hb2
      have a0 := A2.cell (k * 2)
      have a1 := L2.cell k
      have a2 := O2.cell 0
      have a3 := O2.cell 2
      have f0 := A2.free (k * 2)
      have f1 := L2.free k
      have la := A2.lt
      have ll := L2.lt
      have lo := O2.lt
      rw [List.getElem?_toArray, ← Nat.add_zero (k * 2), flatten_at 2 _ (rowsP_len acs zA 2 (fun _ => rfl) rfl lns n1) k 0 zA (rowsP_at acs zA lns n1 k HP.out.l1 hlt) (by omega), Nat.add_zero] at a0
      have e1 := flatten_at 1 _ (rowsP_len litRow zL 1 (fun _ => rfl) rfl lns n1) k 0 zL (rowsP_at litRow zL lns n1 k HP.out.l1 hlt) (by omega)
      rw [Nat.mul_one, Nat.add_zero] at e1
      rw [List.getElem?_toArray, e1] at a1
      simp [zA, zL] at a0 a1 a2 a3
      generalize ((inQ s.a s.zs).getD []).length = ul at *
      clear A2 L2 O2 KB hb2 hu x0 e1
      go_wp2_with fail
      go_roundw
      case rel =>
        refine ⟨k + 1, by omega, by go_num, Lib.hid ⟨_, _, HP.out.step HB2.out HS.out HU.out hlt⟩, Lib.hid ?_⟩
        exact ((((hbel.out.trans (HB2.out.mono hbel.out.size)).setCell (p := ⟨w.heap.size + 1 + 1 + 1, k, none⟩) (by show w.heap.size ≤ w.heap.size + 1 + 1 + 1; omega) _).setCell (p := ⟨w.heap.size + 1 + 1, k * 2, none⟩) (by show w.heap.size ≤ w.heap.size + 1 + 1; omega) _).alloc (by simp; omega) _)
      case measure => simp [intOf]; omega
    · obtain rfl : k = n1 := by omega
      have O2 := HP.out.o
      have a2 := O2.cell 1
      have f2 := O2.free 1
      have lo := O2.lt
      simp at a2
      clear O2
      go_wp2_with fail
      obtain ⟨W0, hW0⟩ : ∃ W0, W0 = ((wo.setCell ⟨w.heap.size + 1, 1, none⟩ (.slice (some ⟨wo.heap.size, 0, none⟩) n2 n2)).alloc (.cells CN 83)) := ⟨_, rfl⟩
      rw [← hW0]
      have HW := Lib.hid hW0
      have hs0 : W0.heap.size = wo.heap.size + 1 := by rw [hW0]; simp
      have BW := Lib.hid (show Below w.heap.size w W0 by rw [hW0]; exact (hbel.out.setCell (p := ⟨w.heap.size + 1, 1, none⟩) (by show w.heap.size ≤ w.heap.size + 1; omega) _).alloc (by simp; omega) _)
      have hg3 : w.heap.size + 3 < wo.heap.size := HP.out.l.lt
      have OW : Hid (Blk W0 (w.heap.size + 1) 78 #[.slice (some ⟨w.heap.size + 1 + 1, 0, none⟩) k k, .slice (some ⟨wo.heap.size, 0, none⟩) n2 n2, .slice (some ⟨w.heap.size + 1 + 1 + 1, 0, none⟩) k k]) := Lib.hid (by
        rw [hW0]
        have := (HP.out.o.set 1 (.slice (some ⟨wo.heap.size, 0, none⟩) n2 n2)).alloc (.cells CN 83)
        simpa using this)
      have UW : Hid (Blk W0 w.heap.size 78 #[.slice none 0 0, .slice none 0 0, .slice none 0 0]) := Lib.hid (by
        rw [hW0]
        exact (HP.out.u.far (p := ⟨w.heap.size + 1, 1, none⟩) (by show w.heap.size ≠ w.heap.size + 1; omega) _).alloc _)
      have NW : Hid (NamS W0 wo.heap.size n2 0 ts []) := Lib.hid (by
        rw [hW0]
        have := Blk.new (wo.setCell ⟨w.heap.size + 1, 1, none⟩ (.slice (some ⟨wo.heap.size, 0, none⟩) n2 n2)) 83 CN
        rw [← HN.out] at this ⊢
        exact ⟨rfl, by simpa using this, fun i p h => by simp at h, fun i p s h => by simp at h⟩)
      clear hW0 a2 f2 lo hmN hmA hmL
      go_loopw [8] (fun i wr => ∃ j : Nat, j ≤ n2 ∧ i = .int .i64 j ∧ Hid (∃ us, NamS wr wo.heap.size n2 j ts us) ∧ Hid (Below wo.heap.size W0 wr)) (fun i _ => n2 - (intOf i).toNat)
      case atStart => exact ⟨0, Nat.zero_le _, rfl, Lib.hid ⟨[], NW.out⟩, Lib.hid (Below.refl _ _)⟩
      case round =>
        obtain ⟨j, hj, rfl, hns, hbl⟩ := hrel
        obtain ⟨wp, hwp⟩ : ∃ wp, wp = wr := ⟨_, rfl⟩
        subst hwp
        obtain ⟨us, hns⟩ := hns.out
        have HQ := Lib.hid hns
        have HO := Lib.hid (OW.out.below hbl.out (by omega))
        have hsp := hbl.out.size
        have o1 := HO.out.cell 1
        simp at o1
        have ol := HO.out.lt
        have gl := HQ.out.n.lt
        by_cases hlt2 : j < n2
        · obtain ⟨s, hs⟩ : ∃ s, ts[j]? = some s := ⟨ts[j]'(by rw [H2.out.1]; exact hlt2), by simp⟩
          have BP := Lib.hid (BW.out.trans (hbl.out.mono (by omega)))
          obtain ⟨b, off, ha, hbb, x0⟩ := IsQss.at (H2.out.2.2.2.2.2.below BP.out) hs
          subst ha
          have hm := List.mem_of_getElem? hs
          have KB := Lib.hid (build12 wp.drew s.a s.l s.c s.zs ((H2.out.2.2.2.2.1 s hm).below BP.out.drew) (HL2.out s hm) (HK2.out s hm))
          have HS := Lib.hid hs
          have hbw : b < wp.heap.size := Nat.lt_of_lt_of_le hbb BP.out.size
          clear hs hns
          go_wp2_with fail
          go_region_held3 (fun w' => w'.cell? ⟨w.heap.size + 1, 1, none⟩ = some (.slice (some ⟨wo.heap.size, 0, none⟩) n2 n2) ∧ w'.cell? ⟨b, off + j, none⟩ = some (.slice s.a s.l s.c)) (first | exact ⟨o1, x0⟩ | exact ⟨z0, z1⟩ | exact ⟨cell_far (by show w.heap.size + 1 ≠ wo.heap.size; omega) z0, cell_far (by show b ≠ wo.heap.size; omega) z1⟩) (first | (go_at_call 12; refine KB.out.mono ?_; rintro e w2 ⟨u, rfl, hu, hb2⟩; have z0 := (hb2.cell (p := ⟨w.heap.size + 1, 1, none⟩) ol).trans o1; have z1 := (hb2.cell (p := ⟨b, off + j, none⟩) hbw).trans x0; have N2 := HQ.out.n.drew.under hb2; obtain ⟨n0, f0, n3, f3⟩ := nrow0 N2 HQ.out.l1 hlt2; have gl2 := N2.lt; obtain ⟨ux, rfl, hux1, hux2, hux3⟩ := hu.open; have HU := Lib.hid hu; have HB2 := Lib.hid hb2; clear hu hb2 N2 hux1 hux3))
          have HST := Lib.hid (HQ.out.drew.step HB2.out HS.out HU.out hlt2)
          have hs2 := HB2.out.size
          have hs2' : wp.heap.size ≤ w2.heap.size := hs2
          have BST := Lib.hid ((((hbl.out.drew.trans (HB2.out.mono (by show wo.heap.size ≤ wp.heap.size; omega))).setCell (p := ⟨wo.heap.size, j * 5, none⟩) (Nat.le_refl _) (.slice ux ((inQ s.a s.zs).getD []).length ((inQ s.a s.zs).getD []).length)).setCell (p := ⟨wo.heap.size, j * 5 + 3, none⟩) (Nat.le_refl _) (.iface 26 (.pointer (some ⟨w2.heap.size, 0, none⟩)))).alloc (by simp; omega) (.cells (nullC (.slice none 0 0)) 42))
          generalize ((inQ s.a s.zs).getD []).length = ul at *
          clear KB hs2 HU
          go_wp2_with fail
          go_roundw
          case rel => exact ⟨j + 1, by omega, by go_num, Lib.hid ⟨_, HST.out⟩, BST⟩
          case measure => simp [intOf]; omega
        · obtain rfl : j = n2 := by omega
          have HU2 := UW.out.below hbl.out (by omega)
          have b0 := HO.out.cell 0
          have b2 := HO.out.cell 2
          have c0 := HU2.cell 0
          have c1' := HU2.cell 1
          have c2' := HU2.cell 2
          have f0 := HU2.free 0
          have f1 := HU2.free 1
          have f2 := HU2.free 2
          have ul := HU2.lt
          simp at b0 b2 c0 c1' c2'
          have HBF := Lib.hid (((HU2.set 0 (.slice (some ⟨w.heap.size + 1 + 1, 0, none⟩) k k)).set 1 (.slice (some ⟨wo.heap.size, 0, none⟩) j j)).set 2 (.slice (some ⟨w.heap.size + 1 + 1 + 1, 0, none⟩) k k))
          clear HU2
          have HC := Lib.hid (mad_of (x0 := .slice (some ⟨w.heap.size + 1 + 1, 0, none⟩) k k) (x1 := .slice (some ⟨wo.heap.size, 0, none⟩) j j) (x2 := .slice (some ⟨w.heap.size + 1 + 1 + 1, 0, none⟩) k k) HP.out HQ.out HW.out hbl.out hg3)
          have BF := Lib.hid ((((BW.out.trans (hbl.out.mono (by omega))).setCell (p := ⟨w.heap.size, 0, none⟩) (Nat.le_refl _) (.slice (some ⟨w.heap.size + 1 + 1, 0, none⟩) k k)).setCell (p := ⟨w.heap.size, 1, none⟩) (Nat.le_refl _) (.slice (some ⟨wo.heap.size, 0, none⟩) j j)).setCell (p := ⟨w.heap.size, 2, none⟩) (Nat.le_refl _) (.slice (some ⟨w.heap.size + 1 + 1 + 1, 0, none⟩) k k))
          go_wp2_with fail
          (try simp only [Exit.inBlock, Exit.then])
          refine bodyPost_ret (results_cell_row rfl _ _ w.heap.size 78 _ (0, 0) _ rfl HBF.out Tryf.underlying78 rfl (by kernel_rfl)) rfl ?_
          exact ⟨_, _, _, _, rfl, HC.out, hg3, BF.out⟩
end Go.Proofs.YtlaghkppjdphnaaFmt
