/- Clone of a set. -/
import Derived.Test.YtnmedoekbcbgbaaMet
namespace Go.Proofs.Ytnmedoekbcbgbaa
open Go.RowKit Go.Maps
set_option linter.unusedVariables false

theorem keyOf_string_inv {key : Value} {l : Lit} (h : keyOf Try.prog 29 key = some l) : ∃ s : ByteArray, key = .string s ∧ s.size ≤ maxLen ∧ l = kl s := by
  have hk := Try.underlying29
  cases key <;> simp [keyOf, hk, mapKey] at h
  exact ⟨_, rfl, h.1, h.2.symm⟩
theorem wpList_next_set (w : World) {ops : Array Oper} {rest : List Oper} {o : Oper} {a : Act} {Q : Exit → Act → World → Prop} (hg : o.guard = none) (it : Operand) (hop : o.op = Op.next it false) (b r n : Nat) (D : DataW Unit) (left : Lit → Bool) (cnt : Nat)
    (hit : a.eval it = .pointer (some ⟨r, 0, none⟩)) (h : w.ranges Try.prog 29 (unitElem (H := Unit)) b r n D left cnt)
    (hDone : cnt = 0 → (∀ l, left l = false) → wpList Try.prog ops Q rest (a.put o.dst (.tuple #[.bool false])) w)
    (hMore : ∀ (s : ByteArray) (w' : World) (cnt' : Nat), s.size ≤ maxLen → (∀ zd, D.atKey (kl s) zd = .agg []) → w'.ranges Try.prog 29 (unitElem (H := Unit)) b r n D (fun z => left z && !z.sameKey (kl s)) cnt' → cnt' < cnt →
      w.grownBy w' (some r) → w'.heap.size = w.heap.size → (Instr.entry (.pointer (some ⟨r, 0, none⟩))).run Try.prog w' = .ok (.tuple #[.string s, .agg #[]]) w' → wpList Try.prog ops Q rest (a.put o.dst (.tuple #[.bool true, .string s, .agg #[]])) w') :
    wpList Try.prog ops Q (o :: rest) a w :=
  wpList_next_ranges w hg it hop 29 law29 (unitElem (H := Unit)) Value.string (fun _ : Unit => .agg #[]) (fun key l hk => by obtain ⟨s, h1, _⟩ := keyOf_string_inv hk; exact ⟨s, h1⟩) (fun v y hv => ⟨(), (unitElem_inv hv).1⟩) b r n D left cnt hit h hDone
    (fun s c l y w' cnt' hk hl hR hat hrg hlt hgr hsz hen => by
      obtain ⟨s', e1, h2, h3⟩ := keyOf_string_inv hk
      injection e1 with e1
      subst e1
      subst h3
      have hy : y = (.agg [], []) := (unitElem_inv hR).2
      subst hy
      exact hMore s w' cnt' h2 hat hrg hlt hgr hsz hen)
theorem run_makeMap_hint {P : Program} (t k e : TypeId) (kd : IntKind) (n : Int) (ht : P.underlying t = some (.map k e)) (w : World) :
    (Instr.makeMap t (some (.int kd n))).run P w = .ok (.map (some w.heap.size)) (w.alloc (.map #[] 0)) := by
  simp [Instr.makeMap, run_underlying ht]
  rfl

set_option maxRecDepth 100000 in
set_option maxHeartbeats 1600000 in
theorem clone_any (w : World) (b n : Nat) (ks : List ByteArray) (h : SetIs w b n ks) (hn : ks.length ≤ 1000000) : Calls Try.prog 9 #[.map (some b)] w (NewSet w ks ks.length) := by
  obtain ⟨D0, hown, hh⟩ := h
  have hmm := fun (m : Int) (W : World) => run_makeMap_hint (P := Try.prog) 26 29 37 .i64 m Try.underlying26 W
  have hbl := hown.lt
  have hsz := hh.2.1
  have e1 : (w.alloc (.map #[] 0)).heap.size = w.heap.size + 1 := by simp
  have HH := Lib.hid hh
  have HC := Lib.hid (hown.canon law29)
  have hmax : Maps.size D0 ≤ 1000000 := by omega
  have HSZ := Lib.hid hsz
  clear hh hsz
  unfold NewSet
  rw [← HSZ.out]
  go_enter Try.func9, Try.ntmps9
  go_wp2_with (first
    | (at_len; refine wpList_len_own _ rfl _ 26 rfl 29 37 Try.underlying26 (unitElem (H := Unit)) b n _ rfl hown ?_)
    | (at_range; refine wpList_range_own _ rfl _ 26 rfl 29 37 law29 Try.underlying26 (unitElem (H := Unit)) b n _ rfl (hown.alloc _) ?_; intro w0 hrg0 hg0 hs0)
    | fail)
  go_frame
  rw [e1] at hrg0 hs0 ⊢
  go_loopw [4] (fun _ wr => ∃ (left : Lit → Bool) (cnt : Nat) (Dout : DataW Unit), wr.ranges Try.prog 29 unitElem b (w.heap.size + 1) n D0 left cnt ∧ cnt ≤ Maps.size D0 ∧
      wr.ownsMap Try.prog 29 unitElem w.heap.size (Maps.size D0 - cnt) Dout ∧ Maps.Agree Dout D0 left ∧ Below w.heap.size w wr)
    (fun _ wr => wr.rangeLeft b (w.heap.size + 1))
  case atStart =>
    exact ⟨_, _, .map [], hrg0, Nat.le_refl _, ((World.ownsMap_made _ _ _ _).kept hg0 (by simp)).mono (Nat.zero_le _), agree_start D0, ((Below.refl _ _).alloc (Nat.le_refl _) _).grown hg0 (by simp) (fun j hj => by cases hj)⟩
  case round =>
    obtain ⟨left, cnt, Dout, hrg, hcs, hout, hA, hnx⟩ := hrel
    go_wp2_with (first
      | (at_next; refine wpList_next_set _ rfl _ rfl b (w.heap.size + 1) n _ _ _ rfl hrg ?_ ?_)
      | fail)
    · intro hc0 hl0
      go_wp2_with fail
      go_ret
      subst hc0
      have e := agree_end hA hl0 (hout.canon law29) HC.out
      subst e
      exact ⟨rfl, ⟨_, by simpa using hout, HH.out⟩, hnx⟩
    · intro s w1 cnt1 hs hat hrg1 hlt hg1 hs1 hen
      have hout1 := hout.kept hg1 (by simp)
      have hkx : keyOf Try.prog 29 (.string s) = some (kl s) := Go.WideMaps.keyOf_string_mk Try.underlying29 hs
      go_wp2_with (first
        | (at_mapUpdate; refine wpList_mapUpdate_own _ rfl _ _ _ 26 rfl 29 37 law29 Try.underlying26 (unitElem (H := Unit)) w.heap.size _ _ rfl (hout1.alloc _) (by unfold maxLen; omega) _ _ _ rfl rfl hkx _ [] unitElem_mk ?_; intro w2 hout2 hg2; go_frame)
        | fail)
      have hga := (World.grownBy_alloc w1 (.cells #[] 37) (some w.heap.size)).trans hg2
      have hrg2 := hrg1.kept hga (fun e => by have := Option.some.inj e; omega) (fun e => by have := Option.some.inj e; omega)
      go_roundw
      case rel =>
        exact ⟨_, cnt1, _, hrg2, by omega, hout2.mono (by omega), agree_step hA hout.isMap (kl_key s) hat,
          (hnx.grown hg1 hnx.size (fun j hj => by cases hj; exact Nat.le_succ _)).grown hga (by have := hnx.size; omega) (fun j hj => by cases hj; exact Nat.le_refl _)⟩
      case measure => rw [hrg2.left_eq, hrg.left_eq]; exact hlt
end Go.Proofs.Ytnmedoekbcbgbaa
