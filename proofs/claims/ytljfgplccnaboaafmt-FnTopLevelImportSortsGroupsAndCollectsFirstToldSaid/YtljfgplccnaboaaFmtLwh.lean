/- What the four laws share. -/
import Derived.Test.YtljfgplccnaboaaFmtPlw
import Derived.Test.YtljfgplccnaboaaFmtWlk
import Derived.Test.YtljfgplccnaboaaFmtGrd
import Derived.Test.YtljfgplccnaboaaFmtRws
namespace Go.Proofs.YtljfgplccnaboaaFmt
open Go.RowKit Go.Lib
set_option linter.unusedVariables false

/-- A slice of bools that came in. -/
def IsBools (w : World) (a : Option Addr) (len cap : Nat) (bs : List Bool) : Prop :=
  bs.length = len ∧ len ≤ cap ∧ cap ≤ maxLen ∧ (a = none → cap = 0) ∧ Rd w w.heap.size a (bs.map Value.bool)
section
variable {H : Type} {enc : TypeId × Value → H} {P : Program} {W : World}
theorem open_boolsR {t e : TypeId} (ht : P.underlying t = some (.slice e)) (he : P.underlying e = some .bool) (hc : P.cellsOf e = 1)
    {a : Option Addr} {len cap : Nat} {d : DataW H} {p : List MemPlace} (h : DataW.Trod enc P W 0 (fun _ => true) true t (.slice a len cap) d p) : ∃ bs, IsBools W a len cap bs := by
  obtain ⟨zs, h1, h2, h3, h4, h5, h6⟩ := open_gen (fun b : Bool => [Value.bool b]) 1 (fun _ => rfl) (by decide) (fun _ => True) ht hc (by
    intro n cs x hl h2
    obtain ⟨b, rfl, _⟩ := DataW.trod_bool he h2
    exact ⟨b, trivial, rfl⟩) h
  refine ⟨zs, h1, h2, h3, h4, ?_⟩
  have e : zs.flatMap (fun b : Bool => [Value.bool b]) = zs.map Value.bool := by
    clear h1 h5 h6
    induction zs with
    | nil => rfl
    | cons b zs ih => rw [List.flatMap_cons, ih]; rfl
  rwa [e] at h6
end
theorem vr_size (same : Bool) (i : Nat) (h : i ≤ 100000) : (vrOf same i).size ≤ maxLen := by
  unfold vrOf
  cases same
  · have := nDigits_le7 i h
    simp only [Bool.false_eq_true, if_false]
    rw [varN_size]
    unfold maxLen
    omega
  · simp only [if_true]
    have : xS.size = 1 := rfl
    rw [this]
    unfold maxLen
    omega
theorem fodOf_fk (bs : List Bool) (i : Nat) : FK (fodOf bs i) := by
  unfold fodOf
  split
  · exact .inr (.inr rfl)
  · exact .inl rfl
theorem chain_mem {same : Bool} {bs : List Bool} {ps : List ByteArray} {n : NE} (h : n ∈ chainN same bs ps) : ∃ i, i < ps.length ∧ n.fod = fodOf bs i ∧ n.var = vrOf same i := by
  obtain ⟨i, hi, rfl⟩ := List.getElem_of_mem h
  refine ⟨i, by simpa [chainN_len] using hi, ?_, ?_⟩ <;> simp [chainN]
/-- The head of the chain that was built. -/
theorem chain_head {w : World} {B : Nat} {same : Bool} {bs : List Bool} {ps : List ByteArray} {v hd : Value} (hc : ChainAt w (NewT B w) B (chainN same bs ps) v) (hh : HeadOf (chainN same bs ps) v hd) (ht : TailAt w (NewT B w) B none) (hl : ps.length ≤ 4096) (hn : ps ≠ []) :
    ∃ lb n0 body ns, chainN same bs ps = n0 :: ns ∧ n0.fod = none ∧ hd = .pointer (some ⟨lb, 0, none⟩) ∧ ChH w (NewT B w) B lb n0 body ns none := by
  rcases hh with ⟨h1, _⟩ | ⟨_, lb, rfl, rfl⟩
  · have := congrArg List.length h1
    rw [chainN_len] at this
    exact absurd (List.length_eq_zero_iff.1 this) hn
  · cases hL : chainN same bs ps with
    | nil =>
      have := congrArg List.length hL
      rw [chainN_len] at this
      exact absurd (List.length_eq_zero_iff.1 this) hn
    | cons n0 ns =>
      rw [hL] at hc
      obtain ⟨lb', body, hv, hnd, hch⟩ := hc
      injection hv with _ hv
      injection hv with hv
      injection hv with hv
      injection hv with hv
      subst hv
      have hm : ∀ n ∈ n0 :: ns, ∃ i, i < ps.length ∧ n.fod = fodOf bs i ∧ n.var = vrOf same i := fun n hn => chain_mem (by rw [hL]; exact hn)
      have hlen := congrArg List.length hL
      rw [chainN_len, List.length_cons] at hlen
      refine ⟨lb, n0, body, ns, rfl, ?_, rfl, hnd, hch, ht, .inl rfl, fun n hn => ?_, fun b hb => ⟨hb.2, by have := hb.1; omega⟩, by omega, fun p hp => ?_⟩
      · have h0 : (chainN same bs ps)[0]? = some n0 := by rw [hL]; rfl
        unfold chainN at h0
        rw [List.getElem?_mapIdx] at h0
        cases hp : ps[0]? with
        | none => rw [hp] at h0; cases h0
        | some x => rw [hp] at h0; injection h0 with h0; rw [← h0]; simp [fodOf]
      · obtain ⟨i, _, h2, _⟩ := hm n (by simp [hn])
        rw [h2]
        exact fodOf_fk bs i
      · rw [← List.map_cons (f := pvN)] at hp
        obtain ⟨n, hn, rfl⟩ := List.mem_map.1 hp
        obtain ⟨i, h1, _, h3⟩ := hm n hn
        show n.var.size ≤ maxLen
        rw [h3]
        exact vr_size same i (by omega)
structure ChainF (bs : List Bool) (ps : List ByteArray) (n0 : NE) (ns : List NE) : Prop where
  perm : ((n0 :: ns).map pvN).Perm ((chainN false bs ps).map pvN)
  grp : ((n0 :: ns).map pvN).map (gam bs ps.length) = (List.range ps.length).map (grpN bs)
  chg : Chg (gam bs ps.length) (pvN n0) ns
  zero : gam bs ps.length (pvN n0) = 0
theorem chain_facts {bs : List Bool} {ps : List ByteArray} {n0 : NE} {ns : List NE} (h : chainN false bs ps = n0 :: ns) : ChainF bs ps n0 ns := by
  refine ⟨by rw [h], by rw [← h]; exact chain_gam bs ps, chain_chg bs ps _ 0 n0 ns rfl (by simpa using h), ?_⟩
  have hl := congrArg List.length h
  rw [chainN_len, List.length_cons] at hl
  have h2 := chain_gam bs ps
  rw [h] at h2
  have h3 := congrArg (fun l => l[0]?) h2
  simp only [List.map_cons, List.getElem?_cons_zero, List.getElem?_map, List.getElem?_range (show 0 < ps.length by omega), Option.map_some, Option.some.injEq] at h3
  exact h3
theorem ChainF.arr {bs : List Bool} {ps : List ByteArray} {n0 : NE} {ns : List NE} {gof : Option Nat} {out : List NE} {f : List (ByteArray × ByteArray)} (h : ChainF bs ps n0 ns) (ht : TLI [] (pvN n0) ns gof out f) : Arr bs ps (out.map pvN) := arr_of_tli ht h.perm h.grp h.chg
theorem Arr.olen {bs : List Bool} {ps : List ByteArray} {out : List NE} (h : Arr bs ps (out.map pvN)) : out.length = ps.length := by
  have := h.len
  rwa [List.length_map] at this
/-- The chain that came out, as a chain of its own. -/
theorem ChainF.next {bs : List Bool} {ps : List ByteArray} {n0 : NE} {ns : List NE} {out : List NE} {f : List (ByteArray × ByteArray)} (h : ChainF bs ps n0 ns) (ht : TLI [] (pvN n0) ns none out f) :
    ∃ m0 ms, out = m0 :: ms ∧ ChainF bs ps m0 ms ∧ ∀ n ∈ ms, FK n.fod := by
  obtain ⟨m0, ms, rfl, h1, h2, h3, h4⟩ := ht.chain (gam bs ps.length) (fun p hp => by cases hp) h.chg (.inl rfl)
  have ha := h.arr ht
  exact ⟨m0, ms, rfl, ⟨ha.perm, ha.grp, h3, h2.trans h.zero⟩, h4⟩
theorem Rd.bel {w w' : World} {B : Nat} {a : Option Addr} {xs : List Value} (h : Rd w w.heap.size a xs) (hb : Below B w w') (hB : B = w.heap.size) : Rd w' w'.heap.size a xs := by
  subst hB
  exact (h.below hb).mono hb.size
end Go.Proofs.YtljfgplccnaboaaFmt
