/- Arguments in memory: what a clean end at one place leaves. -/
import Derived.Test.YtlaghkppjdphnaaFmtArg
namespace Go.Proofs.YtlaghkppjdphnaaFmt
open Go.RowKit
set_option linter.unusedVariables false

theorem cellsN_set (l : List (Value × Nat)) : ∀ (i : Nat) (p : Value × Nat) (u : Value), l[i]? = some p → (cellsN l).set (i * 5) u = cellsN (l.set i (u, p.2)) := by
  induction l with
  | nil => intro i v u h; simp at h
  | cons x l ih =>
    intro i v u h
    have hc : ∀ y l, cellsN (y :: l) = ncs y ++ cellsN l := fun y l => by simp [cellsN]
    cases i with
    | zero =>
      simp at h
      subst h
      rw [hc, List.set_cons_zero, hc]
      simp [ncs]
    | succ i =>
      simp only [List.getElem?_cons_succ] at h
      rw [hc, List.set_cons_succ, hc, ← ih i v u h, show (i + 1) * 5 = 5 + i * 5 by omega, List.set_append_right _ _ (by show 5 ≤ _; omega)]
      congr 2
      show 5 + i * 5 - 5 = i * 5
      omega
section
variable {w w' : World} {X : Nat → Prop} {c lp rp bb pg ng pn nn : Nat} {lns : List Nat} {lv rv lt : Value} {vs : List Value} {us : List (Value × Nat)} {esl esr : List LE} {ps ns : List (List LE)}
theorem ArgS.ensR {v' : Value} {es' : List LE} (h : ArgS w X c lp rp bb pg ng pn nn lns lv rv lt vs us esl esr ps ns) (hb : Blk w' rp 28 (#[rv].setIfInBounds 0 v')) (hf : FodN w' X v' es') (fr : Fr w w' (fun b => b = rp)) :
    ArgS w' X c lp rp bb pg ng pn nn lns lv v' lt vs us esl es' ps ns := by
  have hX : ∀ b, b = rp → X b := fun b e => e ▸ h.xs.2.1
  exact ⟨fr.blk h.bc (fun e => h.nx.1 (hX _ e)), fr.blk h.bl h.d1.1, by simpa using hb, fr.blk h.ba (fun e => h.nx.2.1 (hX _ e)), fr.blk h.bp (fun e => h.nx.2.2 (hX _ e)), fr.blk h.bn (fun e => h.d1.2.2 e.symm),
    fun i ln v h1 h2 => fr.blk (h.lit i ln v h1 h2) (fun e => (h.d2 ln (List.mem_of_getElem? h1)).2.1 e), fun i p h1 => ⟨fr.blk (h.mit i p h1).1 (fun e => (h.mit i p h1).2.1 (hX _ e)), (h.mit i p h1).2⟩,
    h.fl.fr fr hX, hf, fun i v es h1 h2 => (h.fp i v es h1 h2).fr fr hX, fun i p es h1 h2 => (h.fn i p es h1 h2).fr fr hX, h.l1, h.l2, h.l3, h.l4, h.l5, fun b hx => Nat.lt_of_lt_of_le (h.old b hx) fr.size, h.xs, h.nx, h.d1, h.d2, h.d3⟩
theorem ArgS.ensA {v v' : Value} {es' : List LE} {i ln : Nat} (h : ArgS w X c lp rp bb pg ng pn nn lns lv rv lt vs us esl esr ps ns) (hln : lns[i]? = some ln) (hv : vs[i]? = some v) (hb : Blk w' ln 42 ((nullC v).setIfInBounds 0 v')) (hf : FodN w' X v' es') (fr : Fr w w' (fun b => b = ln)) :
    ArgS w' X c lp rp bb pg ng pn nn lns lv rv lt (vs.set i v') us esl esr (ps.set i es') ns := by
  have hx := h.xs.2.2.2 ln (List.mem_of_getElem? hln)
  have hX : ∀ b, b = ln → X b := fun b e => e ▸ hx
  have hd := h.d2 ln (List.mem_of_getElem? hln)
  refine ⟨fr.blk h.bc (fun e => h.nx.1 (hX _ e)), fr.blk h.bl (fun e => hd.1 e.symm), fr.blk h.br (fun e => hd.2.1 e.symm), fr.blk h.ba (fun e => h.nx.2.1 (hX _ e)), fr.blk h.bp (fun e => h.nx.2.2 (hX _ e)), fr.blk h.bn (fun e => hd.2.2 e.symm),
    fun j l2 u h1 h2 => ?_, fun i p h1 => ⟨fr.blk (h.mit i p h1).1 (fun e => (h.mit i p h1).2.1 (hX _ e)), (h.mit i p h1).2⟩,
    h.fl.fr fr hX, h.fr.fr fr hX, fun j u es h1 h2 => ?_, fun i p es h1 h2 => (h.fn i p es h1 h2).fr fr hX, h.l1, by simp [h.l2], by simp [h.l3], h.l4, h.l5, fun b hx => Nat.lt_of_lt_of_le (h.old b hx) fr.size, h.xs, h.nx, h.d1, h.d2, h.d3⟩
  · rw [List.getElem?_set] at h2
    by_cases hij : i = j
    · subst hij
      rw [if_pos rfl] at h2
      split at h2
      · obtain rfl := Option.some.inj h2
        rw [hln] at h1
        obtain rfl := Option.some.inj h1
        simpa [nullC] using hb
      · cases h2
    · rw [if_neg hij] at h2
      exact fr.blk (h.lit j l2 u h1 h2) (fun e => hij (h.d3 i j ln hln (e ▸ h1)))
  · rw [List.getElem?_set] at h1 h2
    by_cases hij : i = j
    · subst hij
      rw [if_pos rfl] at h1 h2
      split at h1
      · split at h2
        · obtain rfl := Option.some.inj h1
          obtain rfl := Option.some.inj h2
          exact hf
        · cases h2
      · cases h1
    · rw [if_neg hij] at h1 h2
      exact (h.fp j u es h1 h2).fr fr hX
theorem ArgS.ensN {p : Value × Nat} {v' : Value} {es' : List LE} {i : Nat} (h : ArgS w X c lp rp bb pg ng pn nn lns lv rv lt vs us esl esr ps ns) (hp : us[i]? = some p) (hb : Blk w' ng 83 ((cellsN us).toArray.setIfInBounds (i * 5) v')) (hf : FodN w' X v' es') (fr : Fr w w' (fun b => b = ng)) :
    ArgS w' X c lp rp bb pg ng pn nn lns lv rv lt vs (us.set i (v', p.2)) esl esr ps (ns.set i es') := by
  have hX : ∀ b, b = ng → X b := fun b e => e ▸ h.xs.2.2.1
  refine ⟨fr.blk h.bc (fun e => h.nx.1 (hX _ e)), fr.blk h.bl h.d1.2.1, fr.blk h.br h.d1.2.2, fr.blk h.ba (fun e => h.nx.2.1 (hX _ e)), fr.blk h.bp (fun e => h.nx.2.2 (hX _ e)), by rw [← cellsN_set us i p v' hp]; simpa using hb,
    fun j ln u h1 h2 => fr.blk (h.lit j ln u h1 h2) (fun e => (h.d2 ln (List.mem_of_getElem? h1)).2.2 e), fun j q h1 => ?_,
    h.fl.fr fr hX, h.fr.fr fr hX, fun j u es h1 h2 => (h.fp j u es h1 h2).fr fr hX, fun j q es h1 h2 => ?_, h.l1, h.l2, h.l3, by simp [h.l4], by simp [h.l5], fun b hx => Nat.lt_of_lt_of_le (h.old b hx) fr.size, h.xs, h.nx, h.d1, h.d2, h.d3⟩
  · have hq : ∃ q', us[j]? = some q' ∧ q'.2 = q.2 := by
      rw [List.getElem?_set] at h1
      by_cases hij : i = j
      · subst hij
        rw [if_pos rfl] at h1
        split at h1
        · obtain rfl := Option.some.inj h1
          exact ⟨p, hp, rfl⟩
        · cases h1
      · rw [if_neg hij] at h1
        exact ⟨q, h1, rfl⟩
    obtain ⟨q', hq1, hq2⟩ := hq
    rw [← hq2]
    exact ⟨fr.blk (h.mit j q' hq1).1 (fun e => (h.mit j q' hq1).2.1 (hX _ e)), (h.mit j q' hq1).2⟩
  · rw [List.getElem?_set] at h1 h2
    by_cases hij : i = j
    · subst hij
      rw [if_pos rfl] at h1 h2
      split at h1
      · split at h2
        · obtain rfl := Option.some.inj h1
          obtain rfl := Option.some.inj h2
          exact hf
        · cases h2
      · cases h1
    · rw [if_neg hij] at h1 h2
      exact (h.fn j q es h1 h2).fr fr hX
end
end Go.Proofs.YtlaghkppjdphnaaFmt
