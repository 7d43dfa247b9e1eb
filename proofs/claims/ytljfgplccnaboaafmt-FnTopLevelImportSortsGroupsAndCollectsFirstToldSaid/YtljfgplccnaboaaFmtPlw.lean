/- The plain laws: groups, sorted groups, first group, second run. -/
import Derived.Test.YtljfgplccnaboaaFmtSim
import Derived.Test.YtljfgplccnaboaaFmtGso
import Derived.Test.YtljfgplccnaboaaFmtFgs
namespace Go.Proofs.YtljfgplccnaboaaFmt
open Go.RowKit Go.Lib
set_option linter.unusedVariables false

def valD (l : List UInt8) : Nat := l.foldl (fun a d => a * 10 + (d.toNat - 48)) 0
theorem valD_dec (u : Nat) : valD (decDigits u) = u := by
  induction u using Nat.strongRecOn with
  | ind u ih =>
    rw [decDigits]
    split
    · simp [valD]; omega
    · have := ih (u / 10) (by omega)
      unfold valD at this ⊢
      rw [List.foldl_append, this]
      simp
      omega
theorem varN_inj {a b : Nat} (h : varN a = varN b) : a = b := by
  unfold varN at h
  injection h with h
  have h1 : 118 :: decDigits a = 118 :: decDigits b := by simpa using h
  injection h1 with _ h2
  rw [← valD_dec a, ← valD_dec b, h2]
/-- The index that a variable bears. -/
def ixV (n : Nat) (v : ByteArray) : Nat := (List.range n).findIdx fun i => decide (varN i = v)
theorem ixV_var {n i : Nat} (h : i < n) : ixV n (varN i) = i := by
  unfold ixV
  rw [List.findIdx_eq (by simpa using h)]
  refine ⟨by simp, fun j hj => ?_⟩
  simp only [List.getElem_range, decide_eq_false_iff_not]
  intro e
  have := varN_inj e
  omega
def gam (bs : List Bool) (n : Nat) (p : ByteArray × ByteArray) : Nat := grpN bs (ixV n p.2)
theorem chain_pv (same : Bool) (bs : List Bool) (ps : List ByteArray) (k : Nat) (p : ByteArray × ByteArray) : ((chainN same bs ps).map pvN)[k]? = some p ↔ ps[k]? = some p.1 ∧ p.2 = vrOf same k := by
  unfold chainN
  rw [List.getElem?_map, List.getElem?_mapIdx]
  cases ps[k]? with
  | none => simp
  | some x =>
    simp only [Option.map_some, Option.some.injEq, pvN]
    constructor
    · rintro rfl; exact ⟨rfl, rfl⟩
    · rintro ⟨h1, h2⟩
      obtain ⟨p1, p2⟩ := p
      simp only at h1 h2
      rw [h1, h2]
theorem chain_gam (bs : List Bool) (ps : List ByteArray) : ((chainN false bs ps).map pvN).map (gam bs ps.length) = (List.range ps.length).map (grpN bs) := by
  apply List.ext_getElem?
  intro k
  rcases Nat.lt_or_ge k ps.length with h | h
  · have h2 := (chain_pv false bs ps k (ps[k], varN k)).2 ⟨by simp, rfl⟩
    rw [List.getElem?_map, h2, List.getElem?_map, List.getElem?_range h]
    simp [gam, ixV_var h]
  · rw [List.getElem?_eq_none (by simp [chainN_len]; exact h), List.getElem?_eq_none (by simp; exact h)]
theorem chain_vars (bs : List Bool) (ps : List ByteArray) : (((chainN false bs ps).map pvN).map Prod.snd).Nodup := by
  have e : ((chainN false bs ps).map pvN).map Prod.snd = (List.range ps.length).map varN := by
    apply List.ext_getElem?
    intro k
    rcases Nat.lt_or_ge k ps.length with h | h
    · rw [List.getElem?_map, (chain_pv false bs ps k (ps[k], varN k)).2 ⟨by simp, rfl⟩, List.getElem?_map, List.getElem?_range h]
      rfl
    · rw [List.getElem?_eq_none (by simp [chainN_len]; exact h), List.getElem?_eq_none (by simp; exact h)]
  rw [e]
  exact List.pairwise_map.2 (List.nodup_range.imp fun h e => h (varN_inj e))
/-- A list of pairs that is a rearrangement in place of the chain's groups, each sorted. -/
structure Arr (bs : List Bool) (ps : List ByteArray) (P : List (ByteArray × ByteArray)) : Prop where
  perm : P.Perm ((chainN false bs ps).map pvN)
  grp : P.map (gam bs ps.length) = (List.range ps.length).map (grpN bs)
  srt : ∀ (k : Nat) (p q : ByteArray × ByteArray), P[k]? = some p → P[k + 1]? = some q → gam bs ps.length p = gam bs ps.length q → ltS q.1 p.1 = false
theorem Arr.at_ {bs : List Bool} {ps : List ByteArray} {P : List (ByteArray × ByteArray)} (h : Arr bs ps P) {k : Nat} {p : ByteArray × ByteArray} (hp : P[k]? = some p) : ∃ i, i < ps.length ∧ ps[i]? = some p.1 ∧ p.2 = varN i ∧ ixV ps.length p.2 = i ∧ grpN bs i = grpN bs k := by
  have hm := h.perm.mem_iff.1 (List.mem_of_getElem? hp)
  obtain ⟨i, hi, he⟩ := List.getElem_of_mem hm
  have h1 := (chain_pv false bs ps i p).1 (by rw [List.getElem?_eq_getElem hi, he])
  have hil : i < ps.length := by simpa [chainN_len] using hi
  have h2 : p.2 = varN i := h1.2
  have h3 : ixV ps.length p.2 = i := by rw [h2, ixV_var hil]
  have hk : k < ps.length := by
    have := (List.getElem?_eq_some_iff.1 hp).1
    rw [h.perm.length_eq] at this
    simpa [chainN_len] using this
  have h4 := congrArg (fun l => l[k]?) h.grp
  simp only [List.getElem?_map, hp, List.getElem?_range hk, Option.map_some, Option.some.injEq] at h4
  exact ⟨i, hil, h1.1, h2, h3, by unfold gam at h4; rw [h3] at h4; exact h4⟩
theorem Arr.len {bs : List Bool} {ps : List ByteArray} {P : List (ByteArray × ByteArray)} (h : Arr bs ps P) : P.length = ps.length := by rw [h.perm.length_eq]; simp [chainN_len]
theorem Arr.gs {bs : List Bool} {ps : List ByteArray} {P : List (ByteArray × ByteArray)} (h : Arr bs ps P) : GSok ps bs P (fun k => ixV ps.length ((P.map Prod.snd).getD k ⟨#[]⟩)) := by
  have hg : ∀ (k : Nat) (p : ByteArray × ByteArray), P[k]? = some p → (P.map Prod.snd).getD k ⟨#[]⟩ = p.2 := fun k p hp => by simp [List.getD, hp]
  have hx : ∀ k, k < ps.length → ∃ p, P[k]? = some p := fun k hk => ⟨P[k]'(by rw [h.len]; exact hk), by simp⟩
  refine ⟨h.len, fun k hk => ?_, fun k p hp => ?_, fun k p hp => ?_, fun k hk => ?_, fun j k hj hk => ?_, fun k p q hp hq hgr => ?_⟩
  · obtain ⟨p, hp⟩ := hx k hk
    obtain ⟨i, h1, h2, h3, h4, h5⟩ := h.at_ hp
    rw [hg k p hp, h4]
    exact h1
  · obtain ⟨i, h1, h2, h3, h4, h5⟩ := h.at_ hp
    rw [hg k p hp, h4]
    exact h2
  · obtain ⟨i, h1, h2, h3, h4, h5⟩ := h.at_ hp
    rw [hg k p hp, h4]
    exact h3
  · obtain ⟨p, hp⟩ := hx k hk
    obtain ⟨i, h1, h2, h3, h4, h5⟩ := h.at_ hp
    rw [hg k p hp, h4]
    exact h5
  · obtain ⟨p, hp⟩ := hx j (by omega)
    obtain ⟨q, hq⟩ := hx k hk
    obtain ⟨i, h1, h2, h3, h4, h5⟩ := h.at_ hp
    obtain ⟨i', h1', h2', h3', h4', h5'⟩ := h.at_ hq
    rw [hg j p hp, hg k q hq, h4, h4']
    rintro rfl
    have hnd : (P.map Prod.snd).Nodup := ((h.perm.map Prod.snd).nodup_iff).2 (chain_vars bs ps)
    obtain ⟨l1, e1⟩ := List.getElem?_eq_some_iff.1 hp
    obtain ⟨l2, e2⟩ := List.getElem?_eq_some_iff.1 hq
    have := List.pairwise_iff_getElem.1 hnd j k (by simpa using l1) (by simpa using l2) hj
    rw [List.getElem_map, List.getElem_map, e1, e2, h3, h3'] at this
    exact this rfl
  · obtain ⟨i, h1, h2, h3, h4, h5⟩ := h.at_ hp
    obtain ⟨i', h1', h2', h3', h4', h5'⟩ := h.at_ hq
    refine h.srt k p q hp hq ?_
    unfold gam
    rw [h4, h4', h5, h5', hgr]
theorem arr_of_tli {bs : List Bool} {ps : List ByteArray} {n0 : NE} {ns : List NE} {gof : Option Nat} {out : List NE} {f : List (ByteArray × ByteArray)} (h : TLI [] (pvN n0) ns gof out f)
    (hp : ((n0 :: ns).map pvN).Perm ((chainN false bs ps).map pvN)) (hg : ((n0 :: ns).map pvN).map (gam bs ps.length) = (List.range ps.length).map (grpN bs)) (hc : Chg (gam bs ps.length) (pvN n0) ns) : Arr bs ps (out.map pvN) := by
  refine ⟨h.perm.trans hp, ?_, ?_⟩
  · rw [h.group _ (fun p hp => by cases hp) hc]
    exact hg
  · exact h.sorted _ (fun p hp => by cases hp) hc (((hp.map Prod.snd).nodup_iff).2 (chain_vars bs ps))
theorem nodesOf_cons (o : Option Nat) (p : ByteArray × ByteArray) (s : List (ByteArray × ByteArray)) : nodesOf o (p :: s) = ⟨o, p.1, p.2⟩ :: s.map fun q => ⟨some 0, q.1, q.2⟩ := by
  unfold nodesOf
  rw [List.mapIdx_cons]
  simp
  apply List.ext_getElem?
  intro i
  simp [List.getElem?_mapIdx]
theorem chg_const {γ : ByteArray × ByteArray → Nat} (l r : List NE) : ∀ a, (∀ n ∈ l, γ (pvN n) = γ a ∧ n.fod ≠ some 1) → (r = [] ∨ ∃ n r', r = n :: r' ∧ γ (pvN n) = γ a + 1 ∧ n.fod = some 1 ∧ Chg γ (pvN n) r') → Chg γ a (l ++ r) := by
  induction l with
  | nil =>
    intro a _ hr
    rcases hr with rfl | ⟨n, r', rfl, h1, h2, h3⟩
    · trivial
    · exact ⟨by rw [if_pos h2]; exact h1, h3⟩
  | cons x l ih =>
    intro a hl hr
    obtain ⟨h1, h2⟩ := hl x (by simp)
    refine ⟨by rw [if_neg h2]; exact h1, ih (pvN x) (fun n hn => ?_) ?_⟩
    · rw [h1]
      exact hl n (by simp [hn])
    · rw [h1]
      exact hr
theorem sorted_gam {γ : ByteArray × ByteArray → Nat} {acc : List (ByteArray × ByteArray)} {cur : ByteArray × ByteArray} {s : List (ByteArray × ByteArray)} (ha : ∀ p ∈ acc, γ p = γ cur) (hs : SortedOf (acc ++ [cur]) s) : s ≠ [] ∧ ∀ p ∈ s, γ p = γ cur := by
  refine ⟨fun e => ?_, fun p hm => ?_⟩
  · have := hs.perm.length_eq
    rw [e] at this
    simp at this
  · rcases List.mem_append.1 (hs.perm.mem_iff.1 hm) with h | h
    · exact ha p h
    · simp at h; rw [h]
theorem TLI.chain {acc cur ns gof out f} (h : TLI acc cur ns gof out f) (γ : ByteArray × ByteArray → Nat) (ha : ∀ p ∈ acc, γ p = γ cur) (hc : Chg γ cur ns) (hf : FK gof) :
    ∃ m0 ms, out = m0 :: ms ∧ m0.fod = gof ∧ γ (pvN m0) = γ cur ∧ Chg γ (pvN m0) ms ∧ ∀ n ∈ ms, FK n.fod := by
  induction h with
  | last acc cur gof s hs =>
    obtain ⟨hn, hm⟩ := sorted_gam ha hs
    cases s with
    | nil => exact absurd rfl hn
    | cons p s =>
      refine ⟨_, _, nodesOf_cons gof p s, rfl, hm p (by simp), ?_, fun n hn => ?_⟩
      · have := chg_const (γ := γ) (s.map fun q => ⟨some 0, q.1, q.2⟩) [] (pvN ⟨gof, p.1, p.2⟩) (fun n hn => ?_) (.inl rfl)
        · rwa [List.append_nil] at this
        · obtain ⟨q, hq, rfl⟩ := List.mem_map.1 hn
          exact ⟨(hm q (by simp [hq])).trans (hm p (by simp)).symm, by simp⟩
      · obtain ⟨q, hq, rfl⟩ := List.mem_map.1 hn
        exact .inr (.inl rfl)
  | brk acc cur n ns gof s out f hb hs ht ih =>
    obtain ⟨hn, hm⟩ := sorted_gam ha hs
    obtain ⟨m0, ms, rfl, h1, h2, h3, h4⟩ := ih (fun p hp => by cases hp) hc.2 (.inr (.inr rfl))
    have e4 := hc.1
    rw [if_pos hb] at e4
    cases s with
    | nil => exact absurd rfl hn
    | cons p s =>
      refine ⟨⟨gof, p.1, p.2⟩, (s.map fun q => ⟨some 0, q.1, q.2⟩) ++ m0 :: ms, by rw [nodesOf_cons]; rfl, rfl, hm p (by simp), ?_, fun k hk => ?_⟩
      · refine chg_const (γ := γ) _ _ _ (fun k hk => ?_) (.inr ⟨m0, ms, rfl, ?_, h1, h3⟩)
        · obtain ⟨q, hq, rfl⟩ := List.mem_map.1 hk
          exact ⟨(hm q (by simp [hq])).trans (hm p (by simp)).symm, by simp⟩
        · have e5 : γ (pvN ⟨gof, p.1, p.2⟩) = γ cur := hm p (by simp)
          have e6 : γ (pvN m0) = γ (pvN n) := h2
          rw [e6, e5, e4]
      · rcases List.mem_append.1 hk with h | h
        · obtain ⟨q, hq, rfl⟩ := List.mem_map.1 h
          exact .inr (.inl rfl)
        · rcases List.mem_cons.1 h with h | h
          · rw [h, h1]; exact .inr (.inr rfl)
          · exact h4 k h
  | next acc cur n ns gof out f hb ht ih =>
    have e : γ (n.path, n.var) = γ cur := by have := hc.1; rw [if_neg hb] at this; simpa [pvN] using this
    obtain ⟨m0, ms, h0, h1, h2, h3, h4⟩ := ih (fun p hp => by
      rw [e]
      rcases List.mem_append.1 hp with h | h
      · exact ha p h
      · simp at h; rw [h]) hc.2 hf
    exact ⟨m0, ms, h0, h1, h2.trans e, h3, h4⟩
/-- The first group stands ahead. -/
theorem TLI.head {acc cur ns gof out f} (h : TLI acc cur ns gof out f) (γ : ByteArray × ByteArray → Nat) (ha : ∀ p ∈ acc, γ p = γ cur) (hc : Chg γ cur ns) :
    ∃ r, out.map pvN = f ++ r ∧ (∀ p ∈ f, γ p = γ cur) ∧ ∀ p, r.head? = some p → γ p = γ cur + 1 := by
  induction h with
  | last acc cur gof s hs => exact ⟨[], by rw [pv_nodesOf, List.append_nil], (sorted_gam ha hs).2, fun p hp => by cases hp⟩
  | brk acc cur n ns gof s out f hb hs ht ih =>
    refine ⟨out.map pvN, by rw [List.map_append, pv_nodesOf], (sorted_gam ha hs).2, fun p hp => ?_⟩
    obtain ⟨m0, ms, rfl, _, h2, _⟩ := ht.chain γ (fun p hp => by cases hp) hc.2 (.inr (.inr rfl))
    simp at hp
    have e4 := hc.1
    rw [if_pos hb] at e4
    rw [← hp, h2]
    exact e4
  | next acc cur n ns gof out f hb ht ih =>
    have e : γ (n.path, n.var) = γ cur := by have := hc.1; rw [if_neg hb] at this; simpa [pvN] using this
    obtain ⟨r, h1, h2, h3⟩ := ih (fun p hp => by
      rw [e]
      rcases List.mem_append.1 hp with h | h
      · exact ha p h
      · simp at h; rw [h]) hc.2
    exact ⟨r, h1, fun p hp => (h2 p hp).trans e, fun p hp => (h3 p hp).trans (by rw [e])⟩
theorem first_uniq {bs : List Bool} {n a b : Nat} (ha : IsFirst bs n a) (hb : IsFirst bs n b) : a = b := by
  have key : ∀ a b, IsFirst bs n a → IsFirst bs n b → ¬ a < b := by
    intro a b ha hb h
    rcases ha.2.2 with h1 | h1
    · have := hb.1
      omega
    · exact h1 (hb.2.1 a h)
  have h1 := key a b ha hb
  have h2 := key b a hb ha
  omega
theorem first_of {bs : List Bool} {ps : List ByteArray} {n0 : NE} {ns : List NE} {gof : Option Nat} {out : List NE} {f : List (ByteArray × ByteArray)} (h : TLI [] (pvN n0) ns gof out f)
    (ha : Arr bs ps (out.map pvN)) (h0 : gam bs ps.length (pvN n0) = 0) (hc : Chg (gam bs ps.length) (pvN n0) ns) : IsFirst bs ps.length f.length ∧ ∃ r, out.map pvN = f ++ r := by
  obtain ⟨r, h1, h2, h3⟩ := h.head _ (fun p hp => by cases hp) hc
  have hl := ha.len
  rw [h1] at hl
  simp at hl
  have hgr : ∀ j p, (f ++ r)[j]? = some p → gam bs ps.length p = grpN bs j := by
    intro j p hp
    have hj : j < ps.length := by
      have := (List.getElem?_eq_some_iff.1 hp).1
      simp at this
      omega
    have := congrArg (fun l => l[j]?) ha.grp
    simp only [List.getElem?_map, List.getElem?_range hj, Option.map_some] at this
    rw [show Option.map pvN out[j]? = some p by rw [← List.getElem?_map, h1]; exact hp] at this
    simpa using this
  refine ⟨⟨by omega, fun j hj => ?_, ?_⟩, r, h1⟩
  · have hp : (f ++ r)[j]? = some f[j] := by rw [List.getElem?_append_left hj]; simp
    rw [← hgr j _ hp, h2 _ (List.getElem_mem _), h0]
  · cases r with
    | nil => left; simpa using hl
    | cons q r =>
      right
      have hp : (f ++ q :: r)[f.length]? = some q := by rw [List.getElem?_append_right (Nat.le_refl _)]; simp
      rw [← hgr _ _ hp, h3 q rfl, h0]
      simp
theorem chain_chg (bs : List Bool) (ps : List ByteArray) : ∀ (m i : Nat) (n : NE) (rest : List NE), ps.length - i = m → (chainN false bs ps).drop i = n :: rest → Chg (gam bs ps.length) (pvN n) rest := by
  intro m
  induction m with
  | zero =>
    intro i n rest h hd
    rw [List.drop_of_length_le (by rw [chainN_len]; omega)] at hd
    cases hd
  | succ m ih =>
    intro i n rest h hd
    obtain ⟨p, hp⟩ : ∃ p, ps[i]? = some p := ⟨ps[i]'(by omega), by simp⟩
    rw [chainN_at hp] at hd
    injection hd with h1 h2
    rcases Nat.lt_or_ge (i + 1) ps.length with hi | hi
    · obtain ⟨q, hq⟩ : ∃ q, ps[i + 1]? = some q := ⟨ps[i + 1]'hi, by simp⟩
      have h3 := chainN_at (same := false) (bs := bs) hq
      rw [h2] at h3
      rw [h3]
      refine ⟨?_, ih (i + 1) _ _ (by omega) (by rw [h2]; exact h3)⟩
      rw [← h1]
      show grpN bs (ixV ps.length (varN (i + 1))) = grpN bs (ixV ps.length (varN i)) + _
      rw [ixV_var hi, ixV_var (by omega)]
      show grpN bs i + _ = _
      congr 1
      unfold fodOf
      by_cases hb : bs.getD (i + 1) false = true <;> simp only [hb] <;> simp
    · rw [List.drop_of_length_le (by rw [chainN_len]; omega)] at h2
      rw [← h2]
      trivial
/-- Two arrangements have the same paths. -/
theorem arr_paths {bs : List Bool} {ps : List ByteArray} {P Q : List (ByteArray × ByteArray)} (hP : Arr bs ps P) (hQ : Arr bs ps Q) : P.map Prod.fst = Q.map Prod.fst := by
  have mono : ∀ i, grpN bs i ≤ grpN bs (i + 1) := fun i => by show grpN bs i ≤ grpN bs i + _; omega
  let le := fun (x y : Nat × ByteArray) => x.1 < y.1 ∨ (x.1 = y.1 ∧ ltS y.2 x.2 = false)
  have trans : ∀ x y z, le x y → le y z → le x z := by
    intro x y z h1 h2
    rcases h1 with h1 | ⟨h1, k1⟩ <;> rcases h2 with h2 | ⟨h2, k2⟩
    · exact .inl (by omega)
    · exact .inl (by omega)
    · exact .inl (by omega)
    · refine .inr ⟨by omega, ?_⟩
      cases hh : ltS z.2 x.2
      · rfl
      · exfalso
        cases hxy : ltS x.2 y.2
        · have e := ltS_tri hxy k1
          rw [e] at hh
          rw [hh] at k2
          cases k2
        · have := ltS_trans hh hxy
          rw [k2] at this
          cases this
  have pw : ∀ {R : List (ByteArray × ByteArray)}, Arr bs ps R → (R.map fun p => (gam bs ps.length p, p.1)).Pairwise le := by
    intro R hR
    have adj : ∀ d i p q, R[i]? = some p → R[i + 1 + d]? = some q → le (gam bs ps.length p, p.1) (gam bs ps.length q, q.1) := by
      have one : ∀ i p q, R[i]? = some p → R[i + 1]? = some q → le (gam bs ps.length p, p.1) (gam bs ps.length q, q.1) := by
        intro i p q hp hq
        obtain ⟨a, _, _, _, h4, h5⟩ := hR.at_ hp
        obtain ⟨b, _, _, _, h4', h5'⟩ := hR.at_ hq
        have m := mono i
        have e1 : gam bs ps.length p = grpN bs i := by unfold gam; rw [h4, h5]
        have e2 : gam bs ps.length q = grpN bs (i + 1) := by unfold gam; rw [h4', h5']
        rcases Nat.lt_or_ge (grpN bs i) (grpN bs (i + 1)) with h | h
        · exact .inl (by simp only; omega)
        · exact .inr ⟨by simp only; omega, hR.srt i p q hp hq (by omega)⟩
      intro d
      induction d with
      | zero => exact one
      | succ d ih =>
        intro i p q hp hq
        have hl := (List.getElem?_eq_some_iff.1 hq).1
        obtain ⟨r, hr⟩ : ∃ r, R[i + 1 + d]? = some r := ⟨R[i + 1 + d]'(by omega), by simp⟩
        exact trans _ _ _ (ih i p r hp hr) (one (i + 1 + d) r q hr hq)
    rw [List.pairwise_map, List.pairwise_iff_getElem]
    intro i j hi hj hij
    obtain ⟨d, rfl⟩ : ∃ d, j = i + 1 + d := ⟨j - (i + 1), by omega⟩
    exact adj d i _ _ (by simp) (by simp)
  have e : (P.map fun p => (gam bs ps.length p, p.1)) = Q.map fun p => (gam bs ps.length p, p.1) := by
    refine List.Perm.eq_of_pairwise (le := le) (fun a b _ _ h1 h2 => ?_) (pw hP) (pw hQ) ((hP.perm.trans hQ.perm.symm).map _)
    rcases h1 with h1 | ⟨h1, k1⟩ <;> rcases h2 with h2 | ⟨h2, k2⟩
    · omega
    · omega
    · omega
    · exact Prod.ext h1 (ltS_tri k2 k1)
  have := congrArg (List.map Prod.snd) e
  simpa [List.map_map, Function.comp_def] using this
/-- Where all variables are one, nothing moves. -/
theorem sorted_same {x : ByteArray} {acc : List (ByteArray × ByteArray)} {cur : ByteArray × ByteArray} {s : List (ByteArray × ByteArray)} (ha : ∀ p ∈ acc, p.2 = x) (hc : cur.2 = x) (hs : SortedOf (acc ++ [cur]) s) : s = acc ++ [cur] := by
  cases acc with
  | nil => exact List.perm_singleton.1 (by simpa using hs.perm)
  | cons a acc =>
    refine hs.2 fun hn => ?_
    rw [List.cons_append, List.map_cons, List.nodup_cons] at hn
    exact hn.1 (by simp [ha a (by simp), hc])
theorem TLI.same {acc cur ns gof out f} (h : TLI acc cur ns gof out f) (x : ByteArray) (ha : ∀ p ∈ acc, p.2 = x) (hc : cur.2 = x) (hn : ∀ n ∈ ns, n.var = x) : out.map pvN = acc ++ cur :: ns.map pvN := by
  induction h with
  | last acc cur gof s hs => rw [pv_nodesOf, sorted_same ha hc hs]; rfl
  | brk acc cur n ns gof s out f hb hs ht ih =>
    rw [List.map_append, pv_nodesOf, sorted_same ha hc hs, ih (fun p hp => by cases hp) (hn n (by simp)) (fun k hk => hn k (by simp [hk]))]
    simp [pvN]
  | next acc cur n ns gof out f hb ht ih =>
    rw [ih (fun p hp => by
      rcases List.mem_append.1 hp with h | h
      · exact ha p h
      · simp at h; rw [h]; exact hc) (hn n (by simp)) (fun k hk => hn k (by simp [hk]))]
    simp [pvN]
end Go.Proofs.YtljfgplccnaboaaFmt
