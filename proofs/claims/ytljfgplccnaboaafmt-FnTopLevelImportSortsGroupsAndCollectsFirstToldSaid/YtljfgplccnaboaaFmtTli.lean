/- What topLevelImport computes, as plain data. -/
import Derived.Test.YtljfgplccnaboaaFmtBld
namespace Go.Proofs.YtljfgplccnaboaaFmt
open Go.RowKit
set_option linter.unusedVariables false

/-- What sortGroup makes of the pairs (path, variable). -/
def SortedOf (es s : List (ByteArray × ByteArray)) : Prop :=
  ((es.map Prod.snd).Nodup → s.Perm es ∧ s.Pairwise (fun x y => ltS y.1 x.1 = false)) ∧ (¬ (es.map Prod.snd).Nodup → s = es)
theorem SortedOf.perm {es s : List (ByteArray × ByteArray)} (h : SortedOf es s) : s.Perm es := by
  by_cases hn : (es.map Prod.snd).Nodup
  · exact (h.1 hn).1
  · rw [h.2 hn]
/-- acc and cur: the group so far; then the nodes that follow; the group's open fodder; the chain that comes out; the group as it comes out. -/
inductive TLI : List (ByteArray × ByteArray) → ByteArray × ByteArray → List NE → Option Nat → List NE → List (ByteArray × ByteArray) → Prop
  | last (acc cur gof s) : SortedOf (acc ++ [cur]) s → TLI acc cur [] gof (nodesOf gof s) s
  | brk (acc cur n ns gof s out f) : n.fod = some 1 → SortedOf (acc ++ [cur]) s → TLI [] (n.path, n.var) ns (some 1) out f → TLI acc cur (n :: ns) gof (nodesOf gof s ++ out) s
  | next (acc cur n ns gof out f) : n.fod ≠ some 1 → TLI (acc ++ [cur]) (n.path, n.var) ns gof out f → TLI acc cur (n :: ns) gof out f
def pvN (n : NE) : ByteArray × ByteArray := (n.path, n.var)
theorem pv_nodesOf (o : Option Nat) (ps : List (ByteArray × ByteArray)) : (nodesOf o ps).map pvN = ps := by
  apply List.ext_getElem?
  intro i
  simp only [nodesOf, List.getElem?_map, List.getElem?_mapIdx]
  cases ps[i]? <;> rfl
theorem TLI.perm {acc cur ns gof out f} (h : TLI acc cur ns gof out f) : (out.map pvN).Perm (acc ++ cur :: ns.map pvN) := by
  induction h with
  | last acc cur gof s hs => rw [pv_nodesOf]; simpa using hs.perm
  | brk acc cur n ns gof s out f hb hs ht ih =>
    rw [List.map_append, pv_nodesOf]
    have := hs.perm.append ih
    simpa [pvN] using this
  | next acc cur n ns gof out f hb ht ih => simpa [pvN] using ih
/-- Group numbers along a chain. -/
def Chg (γ : ByteArray × ByteArray → Nat) : ByteArray × ByteArray → List NE → Prop
  | _, [] => True
  | cur, n :: ns => γ (pvN n) = γ cur + (if n.fod = some 1 then 1 else 0) ∧ Chg γ (pvN n) ns
theorem TLI.group {acc cur ns gof out f} (h : TLI acc cur ns gof out f) (γ : ByteArray × ByteArray → Nat) (ha : ∀ p ∈ acc, γ p = γ cur) (hc : Chg γ cur ns) :
    (out.map pvN).map γ = (acc ++ cur :: ns.map pvN).map γ := by
  have same : ∀ (acc : List (ByteArray × ByteArray)) (cur : ByteArray × ByteArray) (s : List (ByteArray × ByteArray)), (∀ p ∈ acc, γ p = γ cur) → SortedOf (acc ++ [cur]) s → s.map γ = (acc ++ [cur]).map γ := by
    intro acc cur s ha hs
    have hp := hs.perm
    have h1 : ∀ p ∈ s, γ p = γ cur := fun p hm => by
      rcases List.mem_append.1 (hp.mem_iff.1 hm) with h | h
      · exact ha p h
      · simp at h; rw [h]
    have h2 : ∀ p ∈ acc ++ [cur], γ p = γ cur := fun p hm => by
      rcases List.mem_append.1 hm with h | h
      · exact ha p h
      · simp at h; rw [h]
    have e1 : s.map γ = List.replicate (s.map γ).length (γ cur) := List.eq_replicate_of_mem (fun b hb => by obtain ⟨p, hm, rfl⟩ := List.mem_map.1 hb; exact h1 p hm)
    have e2 : (acc ++ [cur]).map γ = List.replicate ((acc ++ [cur]).map γ).length (γ cur) := List.eq_replicate_of_mem (fun b hb => by obtain ⟨p, hm, rfl⟩ := List.mem_map.1 hb; exact h2 p hm)
    rw [e1, e2, List.length_map, List.length_map, hp.length_eq]
  induction h with
  | last acc cur gof s hs => rw [pv_nodesOf]; exact same acc cur s ha hs
  | brk acc cur n ns gof s out f hb hs ht ih =>
    rw [List.map_append, pv_nodesOf, List.map_append, same acc cur s ha hs, ih (fun p hp => by cases hp) hc.2]
    simp [pvN]
  | next acc cur n ns gof out f hb ht ih =>
    rw [ih (fun p hp => by
      have e : γ (n.path, n.var) = γ cur := by have := hc.1; rw [if_neg hb] at this; simpa [pvN] using this
      rw [e]
      rcases List.mem_append.1 hp with h | h
      · exact ha p h
      · simp at h; rw [h]) hc.2]
    simp [pvN]
/-- Where the variables do not repeat: two neighbours of one group stand in order. -/
theorem TLI.sorted {acc cur ns gof out f} (h : TLI acc cur ns gof out f) (γ : ByteArray × ByteArray → Nat) (ha : ∀ p ∈ acc, γ p = γ cur) (hc : Chg γ cur ns) (hn : ((acc ++ cur :: ns.map pvN).map Prod.snd).Nodup) :
    ∀ k p q, (out.map pvN)[k]? = some p → (out.map pvN)[k + 1]? = some q → γ p = γ q → ltS q.1 p.1 = false := by
  have pw : ∀ (s : List (ByteArray × ByteArray)), s.Pairwise (fun x y => ltS y.1 x.1 = false) → ∀ k p q, s[k]? = some p → s[k + 1]? = some q → ltS q.1 p.1 = false := by
    intro s hs k p q h1 h2
    obtain ⟨i1, rfl⟩ := List.getElem?_eq_some_iff.1 h1
    obtain ⟨i2, rfl⟩ := List.getElem?_eq_some_iff.1 h2
    exact List.pairwise_iff_getElem.1 hs k (k + 1) i1 i2 (by omega)
  induction h with
  | last acc cur gof s hs =>
    rw [pv_nodesOf]
    intro k p q h1 h2 _
    exact pw s (hs.1 (by simpa using hn)).2 k p q h1 h2
  | brk acc cur n ns gof s out f hb hs ht ih =>
    intro k p q h1 h2 hg
    rw [List.map_append, pv_nodesOf] at h1 h2
    have hn1 : ((acc ++ [cur]).map Prod.snd).Nodup := by
      have := hn
      rw [List.map_append, List.map_cons] at this
      rw [List.map_append, List.map_cons, List.map_nil]
      exact this.sublist (by simp)
    have hn2 : (([] ++ (n.path, n.var) :: ns.map pvN).map Prod.snd).Nodup := by
      refine hn.sublist ?_
      rw [List.map_append, List.map_append]
      simp [pvN]
    rcases Nat.lt_or_ge (k + 1) s.length with hk | hk
    · rw [List.getElem?_append_left (by omega)] at h1
      rw [List.getElem?_append_left hk] at h2
      exact pw s (hs.1 hn1).2 k p q h1 h2
    · rcases Nat.lt_or_ge k s.length with hk2 | hk2
      · exfalso
        rw [List.getElem?_append_left hk2] at h1
        rw [List.getElem?_append_right hk, show k + 1 - s.length = 0 by omega] at h2
        have e1 : γ p = γ cur := by
          rcases List.mem_append.1 (hs.perm.mem_iff.1 (List.mem_of_getElem? h1)) with h | h
          · exact ha p h
          · simp at h; rw [h]
        have e2 := ht.group γ (fun p hp => by cases hp) hc.2
        have e3 : γ q = γ (n.path, n.var) := by
          have := congrArg (fun l => l[0]?) e2
          simp only [List.getElem?_map, h2, List.nil_append, List.getElem?_cons_zero, Option.map_some] at this
          exact Option.some.inj this
        have e4 := hc.1
        rw [if_pos hb] at e4
        have e5 : γ (n.path, n.var) = γ (pvN n) := rfl
        omega
      · rw [List.getElem?_append_right hk2] at h1
        rw [List.getElem?_append_right (by omega), show k + 1 - s.length = k - s.length + 1 by omega] at h2
        exact ih (fun p hp => by cases hp) hc.2 hn2 _ p q h1 h2 hg
  | next acc cur n ns gof out f hb ht ih =>
    have e : γ (n.path, n.var) = γ cur := by have := hc.1; rw [if_neg hb] at this; simpa [pvN] using this
    exact ih (fun p hp => by
      rw [e]
      rcases List.mem_append.1 hp with h | h
      · exact ha p h
      · simp at h; rw [h]) hc.2 (by simpa [pvN] using hn)
end Go.Proofs.YtljfgplccnaboaaFmt
