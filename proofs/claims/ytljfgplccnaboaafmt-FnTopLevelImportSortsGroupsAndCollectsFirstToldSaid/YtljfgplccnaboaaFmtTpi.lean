/- topLevelImport: the group's elements behind the sort. -/
import Derived.Test.YtljfgplccnaboaaFmtTph
namespace Go.Proofs.YtljfgplccnaboaaFmt
open Go.RowKit
set_option linter.unusedVariables false

def pvI (e : IE) : ByteArray × ByteArray := (e.key, e.var)
theorem ElC.pv {w : World} {C : Nat → Prop} {e : IE} {p : ByteArray × ByteArray} (h : ElC w C e p) : pvI e = p := by
  obtain ⟨g, cg, ib, sb, rfl, _⟩ := h
  rfl
theorem Acc.pairs {w : World} {I : Nat} {C : Nat → Prop} {v : Value} {es : List IE} {ps : List (ByteArray × ByteArray)} (h : Acc w I C v es ps) : es.map pvI = ps := by
  apply List.ext_getElem (by rw [List.length_map, h.len])
  intro i h1 h2
  rw [List.length_map] at h1
  rw [List.getElem_map]
  exact (h.el i _ _ (List.getElem?_eq_getElem h1) (List.getElem?_eq_getElem h2)).pv
/-- What lies behind the sort. -/
structure Srt (w : World) (g2 : Nat) (C : Nat → Prop) (es' : List IE) (rest : List Value) (E : List IE) (P : List (ByteArray × ByteArray)) : Prop where
  hB : Blk w g2 55 (cellsI es' ++ rest).toArray
  el : ∀ e ∈ es', ElC w C e (pvI e)
  fd : ∀ e ∈ es', ElFd w e
  nd : (es'.map IE.aa).Nodup
  so : SortedOf P (es'.map pvI)
  mem : ∀ e ∈ es', e ∈ E
  len : es'.length = E.length
theorem Srt.of {w w7 : World} {I g2 : Nat} {C : Nat → Prop} {v : Value} {E es' : List IE} {P : List (ByteArray × ByteArray)} {rest : List Value} (h : Acc w I C v E P) (f : Fr w w7 (fun b => b = g2)) (hq : v.ownBlock = some g2) (hB : Blk w7 g2 55 (cellsI es' ++ rest).toArray)
    (h1 : (E.map IE.var).Nodup → es'.Perm E ∧ es'.Pairwise (fun x y => ltS y.key x.key = false)) (h2 : ¬ (E.map IE.var).Nodup → es' = E) : Srt w7 g2 C es' rest E P := by
  have hp : es'.Perm E := by
    by_cases hn : (E.map IE.var).Nodup
    · exact (h1 hn).1
    · rw [h2 hn]
  have hP : E.map pvI = P := h.pairs
  have hv : P.map Prod.snd = E.map IE.var := by rw [← hP, List.map_map]; rfl
  have hm : ∀ e ∈ es', e ∈ E := fun e he => hp.mem_iff.1 he
  have hk : ∀ (b : Nat) (t : TypeId) (cs : Array Value), t ≠ 55 → t ≠ 41 → Blk w b t cs → Blk w7 b t cs := fun b t cs h3 _ hb => f.blk hb (fun e => own_ne h.own hq hb h3 e)
  refine ⟨hB, fun e he => ?_, fun e he => (h.fd e (hm e he)).keep hk, ((hp.map IE.aa).nodup_iff).2 h.nd, ?_, hm, hp.length_eq⟩
  · obtain ⟨i, hi, rfl⟩ := List.getElem_of_mem (hm e he)
    have hi2 : i < P.length := by rw [← h.len]; exact hi
    have := h.el i _ _ (List.getElem?_eq_getElem hi) (List.getElem?_eq_getElem hi2)
    rw [← this.pv] at this
    exact this.keep hk
  · unfold SortedOf
    rw [hv]
    refine ⟨fun hn => ⟨by rw [← hP]; exact hp.map pvI, ?_⟩, fun hn => by rw [h2 hn, hP]⟩
    rw [List.pairwise_map]
    exact (h1 hn).2
theorem Srt.at_ {w : World} {g2 : Nat} {C : Nat → Prop} {es' : List IE} {rest : List Value} {E : List IE} {P : List (ByteArray × ByteArray)} (h : Srt w g2 C es' rest E P) {m : Nat} (hm : E.length = m + 1) : ∃ gz cgz ibz pz, es'[m]? = some (mkI' gz cgz ibz pz) ∧ FdB w gz 0 ∧ FB E gz := by
  have hl : m < es'.length := by rw [h.len, hm]; omega
  obtain ⟨gz, cgz, ibz, sbz, he, _⟩ := h.el _ (List.getElem_mem hl)
  obtain ⟨g, hg, hf⟩ := h.fd _ (List.getElem_mem hl)
  rw [he] at hg
  obtain rfl : gz = g := by injection hg with hg; injection hg
  exact ⟨gz, cgz, ibz, _, by rw [List.getElem?_eq_getElem hl, he], hf, _, h.mem _ (List.getElem_mem hl), by rw [he]; rfl⟩
theorem Srt.bld {w W : World} {g2 tb m gz cgz ibz : Nat} {pz : ByteArray × ByteArray} {C : Nat → Prop} {es' : List IE} {rest : List Value} {E : List IE} {P : List (ByteArray × ByteArray)} {cs : Array Value} (h : Srt w g2 C es' rest E P)
    (hz : es'[m]? = some (mkI' gz cgz ibz pz)) (hm : E.length = m + 1) (hk : ∀ (b : Nat) (t : TypeId) (cs : Array Value), t ≠ 44 → t ≠ 66 → b ≠ gz → Blk w b t cs → Blk W b t cs) (hs : w.heap.size ≤ W.heap.size) (ht : Blk w tb 66 cs) (hC : ∀ b, C b → b ≠ tb) :
    Blk W g2 55 (cellsI es' ++ rest).toArray ∧ (∀ (i : Nat) (e : IE) (p : ByteArray × ByteArray), es'[i]? = some e → (es'.map pvI)[i]? = some p → ElAt W (Lt tb W) e p) ∧ (∀ (i : Nat) (e : IE), i + 1 < m + 1 → es'[i]? = some e → ElFd W e) := by
  obtain ⟨gz', hgz, caz, ccz, restz, hfz⟩ := h.fd _ (List.mem_of_getElem? hz)
  obtain rfl : gz = gz' := by injection hgz with hg; injection hg
  refine ⟨hk _ _ _ (by decide) (by decide) (blk_ne h.hB hfz (by decide)) h.hB, fun i e p h1 h2 => ?_, fun i e hi h1 => ?_⟩
  · rw [List.getElem?_map, h1] at h2
    injection h2 with h2
    subst h2
    obtain ⟨g, cg, ib, sb, he, c1, c2, b1, b2⟩ := h.el e (List.mem_of_getElem? h1)
    obtain ⟨g', hg', ca, cc, rest1, hf⟩ := h.fd e (List.mem_of_getElem? h1)
    have hg2 := hg'
    rw [he] at hg2
    obtain rfl : g = g' := by injection hg2 with hg; injection hg
    exact ⟨g, cg, ib, sb, he, ⟨blk_ne hf ht (by decide), Nat.lt_of_lt_of_le hf.lt hs⟩, ⟨hC _ c1, Nat.lt_of_lt_of_le b1.lt hs⟩, ⟨hC _ c2, Nat.lt_of_lt_of_le b2.lt hs⟩, hk _ _ _ (by decide) (by decide) (blk_ne b1 hfz (by decide)) b1, hk _ _ _ (by decide) (by decide) (blk_ne b2 hfz (by decide)) b2⟩
  · obtain ⟨g, hg, ca, cc, rest1, hf⟩ := h.fd e (List.mem_of_getElem? h1)
    refine ⟨g, hg, ca, cc, rest1, hk _ _ _ (by decide) (by decide) ?_ hf⟩
    rintro rfl
    obtain ⟨i1, e1⟩ := List.getElem?_eq_some_iff.1 h1
    obtain ⟨i2, e2⟩ := List.getElem?_eq_some_iff.1 hz
    have := List.pairwise_iff_getElem.1 h.nd i m (by simpa using i1) (by simpa using i2) (by omega)
    rw [List.getElem_map, List.getElem_map, e1, e2, hg] at this
    exact this rfl
/-- A list with nothing in it yet. -/
theorem Acc.nil {w : World} {I : Nat} {C : Nat → Prop} {v : Value} (hI : Blk w I 41 #[v]) (ho : w.ownsRow 0 55 14 v 0 []) : Acc w I C v [] [] :=
  ⟨hI, ho, rfl, fun i e p h => by simp at h, fun e h => by simp at h, by simp⟩
theorem chain_iface {w : World} {S : Nat → Prop} {tb : Nat} {ns : List NE} {v : Value} (h : ChainAt w S tb ns v) : ∃ T b, v = .iface T (.pointer (some ⟨b, 0, none⟩)) := by
  cases ns with
  | nil => exact ⟨29, tb, h⟩
  | cons n ns => obtain ⟨lb, body, rfl, _⟩ := h; exact ⟨28, lb, rfl⟩
theorem Lt.mono {tb b : Nat} {w w' : World} (h : Lt tb w b) (hs : w.heap.size ≤ w'.heap.size) : Lt tb w' b := ⟨h.1, Nat.lt_of_lt_of_le h.2 hs⟩
@[go_sem] theorem make41 (w : World) : (Instr.makeSlice 41 (.int .i64 0) (.int .i64 0)).run Tryf.prog w = .ok (.slice (some ⟨w.heap.size, 0, none⟩) 0 0) (w.alloc (.cells #[] 55)) := by
  obtain ⟨i0, hi, hz0, hz1, hz2⟩ := info_parts infI
  have hmk := run_make_n (P := Tryf.prog) 41 55 i0 _ Tryf.underlying41 hi hz0 .i64 .i64 0 0 (Nat.le_refl _) (by omega) (by omega) w
  have hm0 : madeCells (Value.agg (IE.cells ⟨none, 0, 0, ⟨#[]⟩, none, 0, 0, none, ⟨#[]⟩⟩).toArray).cells (0 * i0.size) = #[] := by simp [madeCells]
  rw [hm0] at hmk
  exact hmk
/-- A list's blocks. -/
def YT (I : Nat) (v : Value) (es : List IE) (b : Nat) : Prop := b = I ∨ v.ownBlock = some b ∨ FB es b
theorem YT.xt {I tb : Nat} {v : Value} {es : List IE} {b : Nat} (h : YT I v es b) : XT I tb v es b := h.elim .inl (fun h => .inr (.inr h))
theorem TopH.ytb {w : World} {C G : Nat → Prop} {I tb lb : Nat} {v : Value} {es : List IE} {ps : List (ByteArray × ByteArray)} {n0 : NE} {body : Value} {ns : List NE} {o gof : Option Nat} {gv : Value} (h : TopH w C G I tb lb v es ps n0 body ns o gof gv) : ¬ YT I v es tb := by
  rintro (hx | hx | hx)
  · exact h.tb.2 (.inl hx)
  · exact h.tb.2 (.inr hx)
  · obtain ⟨fv, h1, _⟩ := h.tl
    obtain ⟨cs, h2⟩ := (FB.lt h.acc hx).2
    exact blk_ne h1 h2 (by decide) rfl
theorem FB.grow {g cg ib b B : Nat} {p : ByteArray × ByteArray} {es : List IE} (h : FB (es ++ [mkI' g cg ib p]) b) (hg : B ≤ g) (hb : b < B) : FB es b := by
  obtain ⟨e, he, ha⟩ := h
  rcases List.mem_append.1 he with h1 | h1
  · exact ⟨e, h1, ha⟩
  · simp at h1
    subst h1
    injection ha with ha
    injection ha with ha
    omega
theorem Acc.vars {w : World} {I : Nat} {C : Nat → Prop} {v : Value} {es : List IE} {ps qs : List (ByteArray × ByteArray)} (h : Acc w I C v es ps) (hs : ∀ p ∈ qs, p.2.size ≤ maxLen) (hm : ∀ p ∈ ps, p ∈ qs) : ∀ e ∈ es, e.var.size ≤ maxLen := by
  intro e he
  exact hs (pvI e) (hm _ (by rw [← h.pairs]; exact List.mem_map_of_mem he))
theorem Acc.own' {w : World} {I m : Nat} {C : Nat → Prop} {v : Value} {es : List IE} {e : IE} {ps : List (ByteArray × ByteArray)} (h : Acc w I C v (es ++ [e]) ps) (hm : es.length = m) : w.ownsRow 0 55 14 v (m + 1) (cellsI (es ++ [e])) := by
  have := h.own
  rw [show (es ++ [e]).length = m + 1 by simp [hm]] at this
  exact this
theorem own_nil {w : World} {B : Nat} (h : Blk w B 55 #[]) : w.ownsRow 0 55 14 (.slice (some ⟨B, 0, none⟩) 0 0) 0 [] :=
  ⟨by simp, .inr ⟨B, 0, #[], rfl, Nat.zero_le _, h, Nat.zero_le _, by unfold maxLen; omega, by simp, by simp⟩⟩
theorem XT.nil {I tb B b : Nat} (h : XT I tb (.slice (some ⟨B, 0, none⟩) 0 0) [] b) : b = I ∨ b = tb ∨ b = B := by
  rcases h with h | h | h | ⟨e, he, _⟩
  · exact .inl h
  · exact .inr (.inl h)
  · injection h with h
    exact .inr (.inr h.symm)
  · cases he
theorem TailAt.sub {w : World} {S T : Nat → Prop} {tb : Nat} {o : Option Nat} (h : TailAt w S tb o) (hT : ∀ b, S b → T b) : TailAt w T tb o := by
  obtain ⟨fv, h1, h2⟩ := h
  exact ⟨fv, h1, h2.sub hT⟩
end Go.Proofs.YtljfgplccnaboaaFmt
