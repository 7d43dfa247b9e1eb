/- zzCount: how many elements of a kind a fodder has. -/
import Derived.Test.YtofhjpmkpgbgiaaApp
namespace Go.Proofs.Ytofhjpmkpgbgiaa
open Go.RowKit
set_option linter.unusedVariables false

def cntK (es : List LE) (q : Int) : Nat := (es.filter fun e => e.kind == q).length
theorem cntK_succ (es : List LE) (k : Nat) (e : LE) (q : Int) (he : es[k]? = some e) : cntK (es.take (k + 1)) q = cntK (es.take k) q + if e.kind = q then 1 else 0 := by
  unfold cntK
  rw [List.take_add_one, he, List.filter_append, List.length_append]
  by_cases h : e.kind = q <;> simp [h]
theorem cntK_le (es : List LE) (k : Nat) (q : Int) : cntK (es.take k) q ≤ k := by
  unfold cntK
  refine Nat.le_trans (List.length_filter_le _ _) ?_
  simp
  exact Nat.min_le_left _ _
theorem keepE_len (e : LE) : (keepE e).length = (if e.kind = 2 then 1 else 0) + 2 * (if e.kind = 1 then 1 else 0) := by
  unfold keepE
  by_cases h2 : e.kind = 2
  · have h1 : e.kind ≠ 1 := by omega
    simp [h2]
  · by_cases h1 : e.kind = 1 <;> simp [h2, h1]
theorem cntK_cons (e : LE) (es : List LE) (q : Int) : cntK (e :: es) q = (if e.kind = q then 1 else 0) + cntK es q := by
  unfold cntK
  by_cases h : e.kind = q
  · simp [h]; omega
  · simp [h]
theorem keep_count (es : List LE) : (keep es).length = cntK es 2 + 2 * cntK es 1 := by
  induction es with
  | nil => rfl
  | cons e es ih =>
    have h2 : keep (e :: es) = keepE e ++ keep es := rfl
    rw [h2, List.length_append, ih, keepE_len, cntK_cons, cntK_cons]
    omega

def Counted (w : World) (m : Nat) (e : Ending) (w' : World) : Prop := e = .returned (.int .i64 m) ∧ w = w'

set_option maxRecDepth 100000 in
theorem count_any (w : World) (v : Value) (S : Nat → Prop) (f : Option (List LE)) (q : Int) (hf : FodV w S v f) (hS : ∀ b, S b → b < w.heap.size) : Calls Try.prog 21 #[v, .int .i64 q] w (Counted w (cntK (f.getD []) q)) := by
  obtain ⟨a, cap, rfl, hle, hfod, _⟩ := hf.open
  unfold Counted
  generalize f.getD [] = es at *
  clear hf
  generalize hn : es.length = n at *
  have HN := Lib.hid hn
  have HF := Lib.hid hfod
  clear hn hfod
  go_enter Try.func21, Try.ntmps21
  go_wp2_with fail
  go_loop [5, 6] (fun j i => ∃ k : Nat, k ≤ n ∧ j = .int .i64 (cntK (es.take k) q : Nat) ∧ i = .int .i64 k) (fun _ i => n - (intOf i).toNat)
  case atStart => exact ⟨0, Nat.zero_le _, by simp [cntK], rfl⟩
  case round =>
    obtain ⟨k, hk, rfl, rfl⟩ := hrel
    have hcl := cntK_le es k q
    by_cases hlt : k < n
    · obtain ⟨e, he⟩ : ∃ e, es[k]? = some e := ⟨es[k]'(by rw [HN.out]; exact hlt), by simp⟩
      obtain ⟨b, off, com, hx, hb, hcm, x0, x1, x2, x3⟩ := HF.out.at he
      subst hx
      have hbw : b < w.heap.size := hS b hb
      have HK := Lib.hid (cntK_succ es k e q he)
      clear he hcm
      generalize cntK (es.take k) q = j at *
      by_cases hkd : e.kind = q
      · rw [if_pos hkd] at HK
        obtain ⟨kd, bl, ind, cm⟩ := e
        simp only at x0 x1 x2 x3 hkd
        subst hkd
        go_wp2
        go_round
        case rel => exact ⟨k + 1, by omega, by rw [HK.out]; go_num, by go_num⟩
        case measure => simp [intOf]; omega
      · rw [if_neg hkd] at HK
        obtain ⟨kd, bl, ind, cm⟩ := e
        simp only at x0 x1 x2 x3 hkd
        go_wp2
        go_round
        case rel => exact ⟨k + 1, by omega, by rw [HK.out]; rfl, by go_num⟩
        case measure => simp [intOf]; omega
    · obtain rfl : k = n := by omega
      have hfull : es.take k = es := List.take_of_length_le (by rw [HN.out]; exact Nat.le_refl _)
      rw [hfull]
      go_wp2
      go_ret
      exact ⟨rfl, rfl⟩
/-- A row of the call's own and a fodder made behind it lie apart, whether or not the row is there. -/
theorem own_pick {w w' w2 : World} {v v2 : Value} {es : List LE} {g : Option (List LE)} (h : OwnF w' w.heap.size (fun b => w.heap.size < b ∧ b < w'.heap.size) v es) (hb : Below w'.heap.size w' w2) (hsz : w.heap.size ≤ w'.heap.size) (hf : FodV w2 (New w' w2) v2 g) :
    ∃ r, w.heap.size ≤ r ∧ OwnF w2 r (fun b => w.heap.size ≤ b ∧ b < w2.heap.size ∧ b ≠ r) v es ∧ FodV w2 (fun b => w.heap.size ≤ b ∧ b < w2.heap.size ∧ b ≠ r) v2 g := by
  have hs2 := hb.size
  obtain ⟨els, h1, h2, h3⟩ := h.fr (Fr.of_below hb (fun _ => False)) (fun b h => ⟨h.2, fun h => h⟩) (fun h => h)
  rcases h2.2 with ⟨rfl, h5⟩ | ⟨q, cap, cur, rfl, hb', hg, rest⟩
  · refine ⟨w2.heap.size, by omega, ⟨els, h1.sub fun b h => ⟨?_, ?_, ?_⟩, h2, fun q hq => by simp [Value.ownBlock] at hq⟩, hf.sub fun b h => ⟨?_, ?_, ?_⟩⟩ <;> first | (have := h.1; have := h.2; omega)
  · obtain rfl : q = w.heap.size := h3 q rfl
    have hlt : w.heap.size < w'.heap.size := by
      obtain ⟨els0, k1, k2, k3⟩ := h
      exact (k2.lt w.heap.size rfl).2
    refine ⟨w.heap.size, by omega, ⟨els, h1.sub fun b h => ⟨?_, ?_, ?_⟩, h2, h3⟩, hf.sub fun b h => ⟨?_, ?_, ?_⟩⟩ <;> first | (have := h.1; have := h.2; omega)
theorem OwnF.is_slice {w : World} {r : Nat} {S : Nat → Prop} {v : Value} {es : List LE} (h : OwnF w r S v es) : ∃ x l d, v = .slice x l d := by
  obtain ⟨els, h1, h2, h3⟩ := h
  rcases h2.2 with ⟨rfl, _⟩ | ⟨q, cap, cur, rfl, _⟩
  · exact ⟨_, _, _, rfl⟩
  · exact ⟨_, _, _, rfl⟩
end Go.Proofs.Ytofhjpmkpgbgiaa
