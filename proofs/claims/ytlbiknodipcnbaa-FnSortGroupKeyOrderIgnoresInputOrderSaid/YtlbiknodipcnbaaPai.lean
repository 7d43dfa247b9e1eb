/- Inputs that are slices of pairs of strings; the guards on their sizes; pairLess. -/
import Derived.Test.YtlbiknodipcnbaaRws
import Derived.Test.YtlbiknodipcnbaaPls
import Derived.ChangeSame
import Derived.ChangeArms
namespace Go.Proofs.Ytlbiknodipcnbaa
open Go.RowKit Go.ChangeShapes Go.WideShapes
set_option linter.unusedVariables false

structure PE where
  k : ByteArray
  v : ByteArray
instance : Inhabited PE := ⟨⟨⟨#[]⟩, ⟨#[]⟩⟩⟩
def PE.cells (z : PE) : List Value := [.string z.k, .string z.v]
def cellsP (zs : List PE) : List Value := zs.flatMap PE.cells
theorem cellsP_len (zs : List PE) : (cellsP zs).length = zs.length * 2 := flat_len PE.cells 2 (fun _ => rfl) zs
theorem cellsP_at (zs : List PE) (i j : Nat) (z : PE) (h : zs[i]? = some z) (hj : j < 2) : (cellsP zs)[i * 2 + j]? = z.cells[j]? := flat_at PE.cells 2 (fun _ => rfl) zs i j z h hj
/-- A slice of pairs that can be read. -/
def IsPs (w : World) (a : Option Addr) (len cap : Nat) (zs : List PE) : Prop :=
  zs.length = len ∧ len ≤ cap ∧ cap ≤ maxLen ∧ (a = none → cap = 0) ∧ (∀ z ∈ zs, z.k.size ≤ maxLen ∧ z.v.size ≤ maxLen) ∧ Rd w w.heap.size a (cellsP zs)
theorem IsPs.below {w w' : World} {a : Option Addr} {n c : Nat} {zs : List PE} (h : IsPs w a n c zs) (hb : Below w.heap.size w w') : IsPs w' a n c zs :=
  ⟨h.1, h.2.1, h.2.2.1, h.2.2.2.1, h.2.2.2.2.1, (h.2.2.2.2.2.below hb).mono hb.size⟩
theorem IsPs.at {w : World} {B : Nat} {a : Option Addr} {zs : List PE} (h : Rd w B a (cellsP zs)) {k : Nat} {z : PE} (hz : zs[k]? = some z) :
    ∃ b off, a = some ⟨b, off, none⟩ ∧ b < B ∧ w.cell? ⟨b, off + k * 2, none⟩ = some (.string z.k) ∧ w.cell? ⟨b, off + k * 2 + 1, none⟩ = some (.string z.v) := by
  have hk : k < zs.length := (List.getElem?_eq_some_iff.1 hz).1
  obtain ⟨b, off, ha, hb, hc⟩ := h.pos (by rw [cellsP_len]; omega)
  exact ⟨b, off, ha, hb, hc (k * 2) _ (cellsP_at zs k 0 z hz (by omega)), hc (k * 2 + 1) _ (cellsP_at zs k 1 z hz (by omega))⟩
set_option maxRecDepth 100000 in
theorem open_p {H : Type} {enc : TypeId × Value → H} {W : World} {a : Option Addr} {len cap : Nat} {d : DataW H} {p : List MemPlace} (h : DataW.Trod enc Try.prog W 0 (fun _ => true) true 22 (.slice a len cap) d p) : ∃ zs, IsPs W a len cap zs := by
  obtain ⟨zs, h1, h2, h3, h4, h5, h6⟩ := open_gen PE.cells 2 (fun _ => rfl) (by decide) (fun z => z.k.size ≤ maxLen ∧ z.v.size ≤ maxLen) Try.underlying22 (by kernel_rfl) (by
    intro n cs x hl h2
    obtain ⟨y0, y1, k, _, _, g0, g1⟩ := trod_struct2 Try.underlying28 h2
    match cs, hl with
    | [v0, v1], _ =>
      have c9 : Try.prog.cellsOf 9 = 1 := by kernel_rfl
      simp [c9] at g0 g1
      obtain ⟨s0, e0, _, w0⟩ := DataW.trod_string Try.underlying9 g0
      obtain ⟨s1, e1, _, w1⟩ := DataW.trod_string Try.underlying9 g1
      simp at e0 e1
      subst e0 e1
      exact ⟨⟨s0, s1⟩, ⟨w0, w1⟩, rfl⟩) h
  exact ⟨zs, h1, h2, h3, h4, h5, h6⟩
def SmallB (w : World) (p : Prop) (e : Ending) (w' : World) : Prop := ∃ r : Bool, e = .returned (.bool r) ∧ w = w' ∧ (r = true → p)
set_option maxRecDepth 100000 in
set_option maxHeartbeats 1600000 in
theorem guard5 (w : World) (a : Option Addr) (n c : Nat) (ps : List PE) (h : IsPs w a n c ps) : Calls Try.prog 5 #[.slice a n c] w (SmallB w (∀ p ∈ ps, p.k.size ≤ 1048576 ∧ p.v.size ≤ 1048576)) := by
  have m0 : n ≤ 9223372036854775807 := by have := h.2.1; have := h.2.2.1; unfold maxLen at this; omega
  have H := Lib.hid h
  clear h

  by_cases t0 : 1048576 < n
  · go_enter Try.func5, Try.ntmps5
    go_wp2
    go_ret
    exact ⟨false, rfl, rfl, fun h => by cases h⟩
  go_enter Try.func5, Try.ntmps5
  go_wp2
  go_loop [3, 4] (fun t i => ∃ k x : Nat, k ≤ n ∧ x ≤ 1048576 ∧ i = .int .i64 k ∧ t = .int .i64 x ∧ Hid (∀ (q : Nat) (p : PE), q < k → ps[q]? = some p → p.k.size ≤ 1048576 ∧ p.v.size ≤ 1048576)) (fun _ i => n - (intOf i).toNat)
  case atStart => exact ⟨0, n, Nat.zero_le _, by omega, rfl, by go_num, Lib.hid fun q p h => absurd h (Nat.not_lt_zero _)⟩
  case round =>
    obtain ⟨k, x, hk, hx, rfl, rfl, HQ⟩ := hrel
    by_cases hlt : k < n
    · obtain ⟨p, hp⟩ : ∃ p, ps[k]? = some p := ⟨ps[k]'(by rw [H.out.1]; exact hlt), by simp⟩
      obtain ⟨b, off, ha, hb, x0, x1⟩ := IsPs.at H.out.2.2.2.2.2 hp
      subst ha
      obtain ⟨z0, z1⟩ := H.out.2.2.2.2.1 p (List.mem_of_getElem? hp)
      unfold maxLen at z0 z1
      have HP := Lib.hid hp
      clear hp
      obtain ⟨pk, pv⟩ := p
      simp only at x0 x1 z0 z1
      obtain ⟨sk, hsk⟩ : ∃ sk, pk.size = sk := ⟨_, rfl⟩
      obtain ⟨sv, hsv⟩ : ∃ sv, pv.size = sv := ⟨_, rfl⟩
      rw [hsk] at z0
      rw [hsv] at z1
      by_cases t1 : 1048576 < sk
      · skip
        go_wp2
        go_ret
        exact ⟨false, rfl, rfl, fun h => by cases h⟩
      by_cases t2 : 1048576 < x + sk
      · skip
        go_wp2
        go_ret
        exact ⟨false, rfl, rfl, fun h => by cases h⟩
      by_cases t3 : 1048576 < sv
      · skip
        go_wp2
        go_ret
        exact ⟨false, rfl, rfl, fun h => by cases h⟩
      by_cases t4 : 1048576 < x + sk + sv
      · skip
        go_wp2
        go_ret
        exact ⟨false, rfl, rfl, fun h => by cases h⟩
      go_wp2
      go_round
      case rel =>
        refine ⟨k + 1, x + sk + sv, by omega, by omega, by go_num, by go_num, Lib.hid fun q p h1 h2 => ?_⟩
        rcases Nat.lt_or_ge q k with h | h
        · exact HQ.out q p h h2
        · obtain rfl : q = k := by omega
          rw [HP.out] at h2
          obtain rfl := Option.some.inj h2
          exact ⟨by rw [hsk]; omega, by rw [hsv]; omega⟩
      case measure => simp [intOf]; omega
    · obtain rfl : k = n := by omega
      go_wp2
      go_ret
      exact ⟨true, rfl, rfl, fun _ p hp => by obtain ⟨q, hq⟩ := List.getElem?_of_mem hp; exact HQ.out q p (by have := (List.getElem?_eq_some_iff.1 hq).1; have := H.out.1; omega) hq⟩
set_option maxRecDepth 100000 in
set_option maxHeartbeats 1600000 in
theorem guard11 (w : World) (a : Option Addr) (n c : Nat) (ps : List PE) (h : IsPs w a n c ps) : Calls Try.prog 11 #[.slice a n c] w (SmallB w (∀ p ∈ ps, p.k.size ≤ 1048576 ∧ p.v.size ≤ 1048576)) := by
  have m0 : n ≤ 9223372036854775807 := by have := h.2.1; have := h.2.2.1; unfold maxLen at this; omega
  have H := Lib.hid h
  clear h

  by_cases t0 : 1048576 < n
  · go_enter Try.func11, Try.ntmps11
    go_wp2
    go_ret
    exact ⟨false, rfl, rfl, fun h => by cases h⟩
  go_enter Try.func11, Try.ntmps11
  go_wp2
  go_loop [3, 4] (fun t i => ∃ k x : Nat, k ≤ n ∧ x ≤ 1048576 ∧ i = .int .i64 k ∧ t = .int .i64 x ∧ Hid (∀ (q : Nat) (p : PE), q < k → ps[q]? = some p → p.k.size ≤ 1048576 ∧ p.v.size ≤ 1048576)) (fun _ i => n - (intOf i).toNat)
  case atStart => exact ⟨0, n, Nat.zero_le _, by omega, rfl, by go_num, Lib.hid fun q p h => absurd h (Nat.not_lt_zero _)⟩
  case round =>
    obtain ⟨k, x, hk, hx, rfl, rfl, HQ⟩ := hrel
    by_cases hlt : k < n
    · obtain ⟨p, hp⟩ : ∃ p, ps[k]? = some p := ⟨ps[k]'(by rw [H.out.1]; exact hlt), by simp⟩
      obtain ⟨b, off, ha, hb, x0, x1⟩ := IsPs.at H.out.2.2.2.2.2 hp
      subst ha
      obtain ⟨z0, z1⟩ := H.out.2.2.2.2.1 p (List.mem_of_getElem? hp)
      unfold maxLen at z0 z1
      have HP := Lib.hid hp
      clear hp
      obtain ⟨pk, pv⟩ := p
      simp only at x0 x1 z0 z1
      obtain ⟨sk, hsk⟩ : ∃ sk, pk.size = sk := ⟨_, rfl⟩
      obtain ⟨sv, hsv⟩ : ∃ sv, pv.size = sv := ⟨_, rfl⟩
      rw [hsk] at z0
      rw [hsv] at z1
      by_cases t1 : 1048576 < sk
      · skip
        go_wp2
        go_ret
        exact ⟨false, rfl, rfl, fun h => by cases h⟩
      by_cases t2 : 1048576 < x + sk
      · skip
        go_wp2
        go_ret
        exact ⟨false, rfl, rfl, fun h => by cases h⟩
      by_cases t3 : 1048576 < sv
      · skip
        go_wp2
        go_ret
        exact ⟨false, rfl, rfl, fun h => by cases h⟩
      by_cases t4 : 1048576 < x + sk + sv
      · skip
        go_wp2
        go_ret
        exact ⟨false, rfl, rfl, fun h => by cases h⟩
      go_wp2
      go_round
      case rel =>
        refine ⟨k + 1, x + sk + sv, by omega, by omega, by go_num, by go_num, Lib.hid fun q p h1 h2 => ?_⟩
        rcases Nat.lt_or_ge q k with h | h
        · exact HQ.out q p h h2
        · obtain rfl : q = k := by omega
          rw [HP.out] at h2
          obtain rfl := Option.some.inj h2
          exact ⟨by rw [hsk]; omega, by rw [hsv]; omega⟩
      case measure => simp [intOf]; omega
    · obtain rfl : k = n := by omega
      go_wp2
      go_ret
      exact ⟨true, rfl, rfl, fun _ p hp => by obtain ⟨q, hq⟩ := List.getElem?_of_mem hp; exact HQ.out q p (by have := (List.getElem?_eq_some_iff.1 hq).1; have := H.out.1; omega) hq⟩
theorem bel_drewN {B : Nat} {w w' : World} (h : Below B w w') (n : Nat) : Below B w (w'.drewN n) := ⟨h.os, h.tape, h.output, h.size, h.block⟩
def BytesN (w : World) (n : Nat) (e : Ending) (w' : World) : Prop := ∃ m : Nat, e = .returned (.int .i64 m) ∧ Below w.heap.size w w' ∧ m ≤ 4194304 ∧ (m ≤ 1048576 → 32 * n ≤ 1048576)
set_option maxRecDepth 100000 in
set_option maxHeartbeats 1600000 in
theorem bytes6 (w : World) (a : Option Addr) (n c : Nat) (ps : List PE) (h : IsPs w a n c ps) (hs : ∀ p ∈ ps, p.k.size ≤ 1048576 ∧ p.v.size ≤ 1048576) : Calls Try.prog 6 #[.slice a n c] w (BytesN w n) := by
  have m0 : n ≤ 9223372036854775807 := by have := h.2.1; have := h.2.2.1; unfold maxLen at this; omega
  have H := Lib.hid h
  have HS := Lib.hid hs
  clear h hs
  go_enter Try.func6, Try.ntmps6
  go_wp2
  go_loopw [3, 4] (fun t i wr => ∃ k x : Nat, k ≤ n ∧ x ≤ 1048576 ∧ 32 * k ≤ x ∧ i = .int .i64 k ∧ t = .int .i64 x ∧ Hid (Below w.heap.size w wr)) (fun _ i _ => n - (intOf i).toNat)
  case atStart => exact ⟨0, 0, Nat.zero_le _, by omega, by omega, rfl, by go_num, Lib.hid (Below.refl _ _)⟩
  case round =>
    obtain ⟨k, x, hk, hx, hkx, rfl, rfl, hbel⟩ := hrel
    by_cases hlt : k < n
    · obtain ⟨p, hp⟩ : ∃ p, ps[k]? = some p := ⟨ps[k]'(by rw [H.out.1]; exact hlt), by simp⟩
      obtain ⟨b, off, ha, hb, x0, x1⟩ := IsPs.at (H.out.2.2.2.2.2.below hbel.out) hp
      subst ha
      have hbw : b < wr.heap.size := Nat.lt_of_lt_of_le hb hbel.out.size
      obtain ⟨z0, z1⟩ := HS.out p (List.mem_of_getElem? hp)
      clear hp
      obtain ⟨pk, pv⟩ := p
      simp only at x0 x1 z0 z1
      obtain ⟨sk, hsk⟩ : ∃ sk, pk.size = sk := ⟨_, rfl⟩
      obtain ⟨sv, hsv⟩ : ∃ sv, pv.size = sv := ⟨_, rfl⟩
      rw [hsk] at z0
      rw [hsv] at z1
      go_wp2_with fail
      go_quiet (fail)
      have BN := Lib.hid (bel_drewN hbel.out nq)
      by_cases t1 : 1048576 < x + (32 + sk + sv)
      · go_wp2_with fail
        go_ret
        exact ⟨x + (32 + sk + sv), by go_num, BN.out, by omega, fun h => by omega⟩
      go_wp2_with fail
      go_roundw
      case rel => exact ⟨k + 1, x + (32 + sk + sv), by omega, by omega, by omega, by go_num, by go_num, BN⟩
      case measure => simp [intOf]; omega
    · obtain rfl : k = n := by omega
      go_wp2
      go_ret
      exact ⟨x, rfl, hbel.out, by omega, fun _ => by omega⟩
/-- The order of pairs that pairLess gives. -/
def ltP (p q : PE) : Bool := if p.k = q.k then ltS p.v q.v else ltS p.k q.k
theorem less17 (w : World) (p q : PE) : Calls Try.prog 17 #[.agg #[.string p.k, .string p.v], .agg #[.string q.k, .string q.v]] w fun e w' => e = .returned (.bool (ltP p q)) ∧ Below w.heap.size w w' := by
  have B0 := Lib.hid (fun o1 o2 => ((Below.refl w.heap.size w).alloc (Nat.le_refl _) o1).alloc (by simp) o2)
  unfold ltP
  by_cases hk : p.k = q.k
  · have h1 : (p.k.toList == q.k.toList) = true := by rw [bytes_eq]; simpa using hk
    have h2 : (p.k.toList != q.k.toList) = false := by rw [bne, h1]; rfl
    rw [if_pos hk]
    clear hk
    unfold ltS
    go_enter Try.func17, Try.ntmps17
    go_wp2
    go_ret
    exact ⟨rfl, B0.out _ _⟩
  · have h1 : (p.k.toList == q.k.toList) = false := by rw [bytes_eq]; simpa using hk
    have h2 : (p.k.toList != q.k.toList) = true := by rw [bne, h1]; rfl
    rw [if_neg hk]
    clear hk
    unfold ltS
    go_enter Try.func17, Try.ntmps17
    go_wp2
    go_ret
    exact ⟨rfl, B0.out _ _⟩
theorem ltP_irrefl (p : PE) : ltP p p = false := by simp [ltP, ltS_irrefl]
theorem ltP_asymm {p q : PE} (h : ltP p q = true) : ltP q p = false := by
  unfold ltP at *
  by_cases e : p.k = q.k
  · rw [if_pos e] at h
    rw [if_pos e.symm]
    exact ltS_asymm h
  · rw [if_neg e] at h
    rw [if_neg (fun h => e h.symm)]
    exact ltS_asymm h
theorem ltP_tri {p q : PE} (h1 : ltP p q = false) (h2 : ltP q p = false) : p = q := by
  unfold ltP at *
  by_cases e : p.k = q.k
  · rw [if_pos e] at h1
    rw [if_pos e.symm] at h2
    obtain ⟨pk, pv⟩ := p
    obtain ⟨qk, qv⟩ := q
    simp only at e h1 h2
    rw [e, ltS_tri h1 h2]
  · rw [if_neg e] at h1
    rw [if_neg (fun h => e h.symm)] at h2
    exact absurd (ltS_tri h1 h2) e
theorem ltP_trans {p q r : PE} (h1 : ltP p q = true) (h2 : ltP q r = true) : ltP p r = true := by
  unfold ltP at *
  by_cases e : p.k = q.k
  · rw [if_pos e] at h1
    by_cases e2 : q.k = r.k
    · rw [if_pos e2] at h2
      rw [if_pos (e.trans e2)]
      exact ltS_trans h1 h2
    · rw [if_neg e2] at h2
      rw [if_neg (fun h => e2 (e.symm.trans h)), e]
      exact h2
  · rw [if_neg e] at h1
    by_cases e2 : q.k = r.k
    · rw [← e2, if_neg e]
      exact h1
    · rw [if_neg e2] at h2
      have h3 := ltS_trans h1 h2
      rw [if_neg (fun h => by rw [h] at h1; have := ltS_asymm h1; rw [h2] at this; cases this)]
      exact h3
/-- Not greater. -/
def leP (p q : PE) : Bool := !ltP q p
theorem leP_total (p q : PE) : (leP p q || leP q p) = true := by
  unfold leP
  cases h : ltP q p
  · rfl
  · rw [ltP_asymm h]; rfl
theorem leP_trans (p q r : PE) (h1 : leP p q = true) (h2 : leP q r = true) : leP p r = true := by
  unfold leP at *
  cases h : ltP r p
  · rfl
  · simp only [Bool.not_eq_true'] at h1 h2
    cases h3 : ltP p q
    · have := ltP_tri h3 h1
      subst this
      rw [h] at h2
      cases h2
    · have := ltP_trans h h3
      rw [this] at h2
      cases h2
theorem leP_antisymm {p q : PE} (h1 : leP p q = true) (h2 : leP q p = true) : p = q := by
  unfold leP at *
  simp only [Bool.not_eq_true'] at h1 h2
  exact ltP_tri h2 h1
end Go.Proofs.Ytlbiknodipcnbaa
