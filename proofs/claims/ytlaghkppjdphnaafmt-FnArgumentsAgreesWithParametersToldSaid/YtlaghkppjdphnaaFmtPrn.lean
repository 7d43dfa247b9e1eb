/- FodderEnsureCleanNewline; Base.Parens; FixNewlines.Parens. -/
import Derived.Test.YtlaghkppjdphnaaFmtVis
namespace Go.Proofs.YtlaghkppjdphnaaFmt
open Go.RowKit
set_option linter.unusedVariables false

/-- A fodder's slice that reads es, its memory apart from the blocks of X; full where it has no clean end. -/
def FodN (w : World) (X : Nat → Prop) (v : Value) (es : List LE) : Prop :=
  ∃ f, FodV w (fun b => b < w.heap.size ∧ ¬ X b) v f ∧ f.getD [] = es ∧ (isClean es = false → FodC w (fun b => b < w.heap.size ∧ ¬ X b) v f)
theorem FodN.fr {w w' : World} {X Y : Nat → Prop} {v : Value} {es : List LE} (h : FodN w X v es) (fr : Fr w w' Y) (hY : ∀ b, Y b → X b) : FodN w' X v es := by
  obtain ⟨f, h1, h2, h3⟩ := h
  have hag : Agree (fun b => b < w.heap.size ∧ ¬ X b) w w' := fr.agree fun b hb => ⟨hb.1, fun hy => hb.2 (hY b hy)⟩
  have hsub : ∀ b, (b < w.heap.size ∧ ¬ X b) → (b < w'.heap.size ∧ ¬ X b) := fun b hb => ⟨Nat.lt_of_lt_of_le hb.1 fr.size, hb.2⟩
  exact ⟨f, (h1.keep hag).sub hsub, h2, fun hc => ((h3 hc).keep hag).sub hsub⟩
theorem FodN.below {w w' : World} {X : Nat → Prop} {v : Value} {es : List LE} (h : FodN w X v es) (hb : Below w.heap.size w w') : FodN w' X v es :=
  h.fr (Fr.of_below hb (fun _ => False)) fun b hb => hb.elim
theorem FodN.open {w : World} {X : Nat → Prop} {v : Value} {es : List LE} (h : FodN w X v es) : ∃ a c, v = .slice a es.length c ∧ es.length ≤ 16777216 ∧ FodIs w (fun b => b < w.heap.size ∧ ¬ X b) a es ∧ (es.length = 0 ∨ ∃ b off, a = some ⟨b, off, none⟩) := by
  obtain ⟨f, h1, rfl, _⟩ := h
  obtain ⟨a, c, h3, h4, h5, _⟩ := h1.open
  refine ⟨a, c, h3, h4, h5, ?_⟩
  obtain ⟨els, h6, h7⟩ := h5
  rcases h7 with h7 | ⟨b, off, h7, _⟩
  · left
    rw [← h6.1, ← Nat.mul_right_cancel_iff (show 0 < 4 by omega), ← cellsF_len, h7]
    rfl
  · exact .inr ⟨b, off, h7⟩
theorem isClean_ens (es : List LE) : isClean (ens es) = true := by
  unfold ens
  split
  · next h => exact h
  · simp [isClean]
theorem ens_ok {es : List LE} (h : ∀ e ∈ es, OkL e) : ∀ e ∈ ens es, OkL e := by
  unfold ens
  split
  · exact h
  · intro e he
    rcases List.mem_append.1 he with he | he
    · exact h e he
    · simp at he
      subst he
      exact ⟨by decide, by decide, by decide, by decide, by simp, by simp⟩
theorem set_self (cs : Array Value) (o : Nat) (v : Value) (h : cs[o]? = some v) : cs.setIfInBounds o v = cs := by
  apply Array.ext_getElem?
  intro i
  rw [Array.getElem?_setIfInBounds]
  split
  · next hi =>
    subst hi
    split
    · exact h.symm
    · next hlt => rw [Array.getElem?_eq_none (by omega)] at h; cases h
  · rfl
/-- What FodderEnsureCleanNewline leaves. -/
def EnsN (w : World) (X : Nat → Prop) (p o : Nat) (t : TypeId) (cs : Array Value) (es : List LE) (e : Ending) (w' : World) : Prop :=
  e = .returned (.tuple #[]) ∧ (∃ v', Blk w' p t (cs.setIfInBounds o v') ∧ FodN w' X v' (ens es)) ∧ Fr w w' (fun b => b = p)

set_option maxRecDepth 100000 in
set_option maxHeartbeats 1600000 in
theorem ens36 (w : World) (X : Nat → Prop) (p o : Nat) (t : TypeId) (cs : Array Value) (v : Value) (es : List LE) (hb : Blk w p t cs) (hat : cs[o]? = some v) (hf : FodN w X v es) (hX : ∀ b, X b → b < w.heap.size) (hp : X p) :
    Calls Tryf.prog 36 #[.pointer (some ⟨p, o, none⟩)] w (EnsN w X p o t cs es) := by
  obtain ⟨a, cp, rfl, hle, hfo, _⟩ := hf.open
  have c0 := hb.cell o
  rw [hat] at c0
  have pl := hb.lt
  have KCL := Lib.hid (clean_fod w (fun b => b < w.heap.size ∧ ¬ X b) a es.length cp es hfo (fun b h => h.1) rfl hle)
  have HB := Lib.hid hb
  have HAT := Lib.hid hat
  have HF := Lib.hid hf
  have HX := Lib.hid hX
  have HP := Lib.hid hp
  clear hb hat hfo hX hp hf
  unfold EnsN
  cases hc : isClean es with
  | true =>
    rw [hc] at KCL
    have HE := Lib.hid (show ens es = es by unfold ens; rw [if_pos hc])
    have HC := Lib.hid hc
    clear hc
    go_enter Tryf.func36, Tryf.ntmps36
    go_wp2_with fail
    refine KCL.out.mono ?_
    rintro e w1 ⟨rfl, rfl⟩
    go_wp2_with fail
    go_end0
    exact ⟨rfl, ⟨_, by rw [set_self _ _ _ HAT.out]; exact HB.out, by rw [HE.out]; exact HF.out⟩, Fr.refl _ _⟩
  | false =>
    rw [hc] at KCL
    have HE := Lib.hid (show ens es = es ++ [⟨0, 0, 0, some []⟩] by unfold ens; rw [if_neg (by rw [hc]; simp)])
    have HN : Hid (isClean (ens es) = true) := Lib.hid (isClean_ens es)
    obtain ⟨f, hf1, hf2, hf3⟩ := HF.out
    have hfc := hf3 hc
    have hcl : isClean (f.getD []) = false := by rw [hf2]; exact hc
    have B2 : Below w.heap.size w ((w.alloc (.cells #[] 9)).alloc (.cells #[.slice (some ⟨w.heap.size, 0, none⟩) 0 0, .int .i64 0, .int .i64 0, .int .i64 0] 91)) := ((Below.refl w.heap.size w).alloc (Nat.le_refl _) _).alloc (by simp) _
    have hag : Agree (fun b => b < w.heap.size ∧ ¬ X b) w ((w.alloc (.cells #[] 9)).alloc (.cells #[.slice (some ⟨w.heap.size, 0, none⟩) 0 0, .int .i64 0, .int .i64 0, .int .i64 0] 91)) := Agree.of_below B2 fun b h => h.1
    have KF := Lib.hid (fapp_full ((w.alloc (.cells #[] 9)).alloc (.cells #[.slice (some ⟨w.heap.size, 0, none⟩) 0 0, .int .i64 0, .int .i64 0, .int .i64 0] 91)) p o t cs _ ((HB.out.alloc _).alloc _) HAT.out (fun b => b < w.heap.size ∧ ¬ X b) f (hfc.keep hag) (fun b h => ⟨by have := h.1; simp; omega, fun e => h.2 (e ▸ HP.out)⟩) hcl ⟨w.heap.size, 0, none⟩)
    rw [hf2] at KF
    have BW := Lib.hid B2
    have hsz : ((w.alloc (.cells #[] 9)).alloc (.cells #[.slice (some ⟨w.heap.size, 0, none⟩) 0 0, .int .i64 0, .int .i64 0, .int .i64 0] 91)).heap.size = w.heap.size + 2 := by simp
    clear hf1 hf2 hf3 hfc hag B2 HF hc hcl
    go_enter Tryf.func36, Tryf.ntmps36
    go_wp2_with fail
    refine KCL.out.mono ?_
    rintro e w1 ⟨rfl, rfl⟩
    go_wp2_with fail
    refine (make_le _ _ 0 0 0 0 (by omega)).mono ?_
    rintro e w1 ⟨rfl, rfl⟩
    go_wp2_with fail
    refine KF.out.mono ?_
    rintro e w2 ⟨rfl, ⟨v', hb', f', hf', hl'⟩, hfr⟩
    have H1 := Lib.hid hb'
    have H2 := Lib.hid hf'
    have H3 := Lib.hid hl'
    have H4 := Lib.hid hfr
    clear hb' hf' hl' hfr KF
    go_wp2_with fail
    go_end0
    have hs := H4.out.size
    rw [hsz] at hs
    refine ⟨rfl, ⟨v', H1.out, f', ?_, by rw [H3.out, HE.out], fun hc => by rw [HN.out] at hc; cases hc⟩, (Fr.of_below BW.out _).trans H4.out⟩
    refine H2.out.sub fun b hb => ?_
    rcases hb with hb | hb
    · exact ⟨by omega, hb.2⟩
    · have h9 := hb.1
      rw [hsz] at h9
      exact ⟨hb.2, fun hx => by have := HX.out b hx; omega⟩

def parC (ln : Nat) (v : Value) : Array Value := #[.iface 26 (.pointer (some ⟨ln, 0, none⟩)), v, .slice none 0 0, .pointer none, .slice none 0 0, .pointer none, .string ⟨#[]⟩, .int .i64 0, .int .i64 0, .int .i64 0, .int .i64 0]
set_option maxRecDepth 100000 in
set_option maxHeartbeats 3200000 in
theorem base37 (w : World) (c p ln : Nat) (a1 a2 : Option Addr) (n1 c1 n2 c2 : Nat) (cs0 : Array Value) (hc : Blk w c 52 cs0) (hp : Blk w p 47 (parC ln (.slice a2 n2 c2))) (hln : Blk w ln 42 (nullC (.slice a1 n1 c1))) (hpl : p ≠ ln) (hcl : c ≠ ln)
    (h1 : n1 = 0 ∨ ∃ b off, a1 = some ⟨b, off, none⟩) (hn1 : n1 ≤ 16777216) (h2 : n2 = 0 ∨ ∃ b off, a2 = some ⟨b, off, none⟩) (hn2 : n2 ≤ 16777216) (b x : Value) :
    Calls Tryf.prog 37 #[b, .iface 48 (.pointer (some ⟨c, 0, none⟩)), .pointer (some ⟨p, 0, none⟩), x] w (Fine w) := by
  unfold Fine
  have pl := hp.lt
  have cl := hc.lt
  have KV := Lib.hid (visit69 w.drew c p 0 ln a1 n1 c1 47 _ cs0 hc hp rfl hln hpl hcl h1 hn1 (.pointer (some ⟨c, 0, none⟩)) x)
  have hmet := method_row (P := Tryf.prog) (w := w.drew) (t := 48) (fuel := 377) (name := "Visit") (k := 69) hc (.inr (by kernel_rfl)) (by kernel_rfl)
  have HC := Lib.hid hc
  have HP := Lib.hid hp
  clear hc hp hln
  go_enter Tryf.func37, Tryf.ntmps37
  go_wp2_with fail
  refine wp_region_tail 9 (by kernel_rfl) (by kernel_rfl) ?_
  simp only [List.take_succ_cons, List.take_zero, List.drop_succ_cons, List.drop_zero]
  repeat still_step
  refine wpStill_nil ?_
  go_wp2_with fail
  refine KV.out.mono ?_
  rintro e w1 ⟨rfl, hb1⟩
  have B1 : Hid (Below w.heap.size w w1) := Lib.hid ((Below.refl w.heap.size w).drew.trans hb1)
  have hc1 : Blk w1.drew c 52 cs0 := (B1.out.block c cl).trans HC.out
  have hp1 : Blk w1.drew p 47 (parC ln (.slice a2 n2 c2)) := (B1.out.block p pl).trans HP.out
  have KF := Lib.hid (fod68 w1.drew c p 1 a2 n2 c2 47 _ cs0 hc1 hp1 rfl h2 hn2 (.pointer (some ⟨c, 0, none⟩)) x)
  have hmet2 := method_row (P := Tryf.prog) (w := w1.drew) (t := 48) (fuel := 377) (name := "Fodder") (k := 68) hc1 (.inr (by kernel_rfl)) (by kernel_rfl)
  clear hb1 hmet hc1 hp1 KV
  go_wp2_with fail
  refine wp_region_tail 9 (by kernel_rfl) (by kernel_rfl) ?_
  simp only [List.take_succ_cons, List.take_zero, List.drop_succ_cons, List.drop_zero]
  repeat still_step
  refine wpStill_nil ?_
  go_wp2_with fail
  refine KF.out.mono ?_
  rintro e w2 ⟨rfl, hb2⟩
  have B2 := Lib.hid (B1.out.drew.trans (hb2.mono B1.out.size))
  clear hb2 KF
  go_wp2_with fail
  go_end0
  exact ⟨rfl, B2.out⟩
end Go.Proofs.YtlaghkppjdphnaaFmt
