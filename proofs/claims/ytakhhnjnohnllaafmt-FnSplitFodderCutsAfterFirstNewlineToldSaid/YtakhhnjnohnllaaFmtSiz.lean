/- fodderBytes: some number; kindOf; sumBlanks. -/
import Derived.Test.YtakhhnjnohnllaaFmtSpl
namespace Go.Proofs.YtakhhnjnohnllaaFmt
open Go.RowKit
set_option linter.unusedVariables false

/-- A slice of this seat's elements, opened. -/
theorem open_in {H : Type} {enc : TypeId × Value → H} {W : World} {a : Option Addr} {len cap : Nat} {d : DataW H} {p : List MemPlace} (h : DataW.Trod enc Tryf.prog W 0 (fun _ => true) true 22 (.slice a len cap) d p) : ∃ zs, IsZs W a len cap zs :=
  open_zels Tryf.underlying22 Tryf.underlying39 (by kernel_rfl) (by kernel_rfl) Tryf.underlying3 Tryf.underlying3 Tryf.underlying3 Tryf.underlying31 Tryf.underlying9 (by kernel_rfl) h

def NumI (w : World) (e : Ending) (w' : World) : Prop := ∃ m : Int, e = .returned (.int .i64 m) ∧ w = w'

set_option maxRecDepth 100000 in
set_option maxHeartbeats 3200000 in
theorem size6 (w : World) (a : Option Addr) (n c : Nat) (zs : List ZE) (h : IsZs w a n c zs) : Calls Tryf.prog 6 #[.slice a n c] w (NumI w) := by
  have m0 : n ≤ 9223372036854775807 := by have := h.2.1; have := h.2.2.1; unfold maxLen at this; omega
  have H := Lib.hid h
  clear h
  go_enter Tryf.func6, Tryf.ntmps6
  go_wp2
  go_loop [3, 4] (fun t i => ∃ (k : Nat) (x : Int), k ≤ n ∧ i = .int .i64 k ∧ t = .int .i64 x) (fun _ i => n - (intOf i).toNat)
  case atStart => exact ⟨0, 0, Nat.zero_le _, rfl, rfl⟩
  case round =>
    obtain ⟨k, x, hk, rfl, rfl⟩ := hrel
    by_cases hlt : k < n
    · obtain ⟨z, hz⟩ : ∃ z, zs[k]? = some z := ⟨zs[k]'(by rw [H.out.1]; exact hlt), by simp⟩
      obtain ⟨b, off, ha, hb, _, _, _, x3⟩ := IsZs.at (n := n) (c := c) H.out.2.2.2.2.2 hz
      subst ha
      obtain ⟨q1, q2, q3, q4, q5, q6⟩ := (H.out.2.2.2.2.1 z (List.mem_of_getElem? hz)).2.2.2
      have c63 : z.cl ≤ 9223372036854775807 := by unfold maxLen at q3; omega
      have HSS := Lib.hid q6
      have HSL := Lib.hid q1
      clear q1 q2 q3 q4 q5 q6 hz
      obtain ⟨_, _, _, ca, cl, cc, ss⟩ := z
      simp only at x3 c63
      go_wp2
      go_loop [3, 5] (fun t i => ∃ (j : Nat) (y : Int), j ≤ cl ∧ i = .int .i64 j ∧ t = .int .i64 y) (fun _ i => cl - (intOf i).toNat)
      case atStart => exact ⟨0, _, Nat.zero_le _, rfl, rfl⟩
      case round =>
        obtain ⟨j, y, hj, rfl, rfl⟩ := hrel
        by_cases hjt : j < cl
        · have hsl : ss.length = cl := HSL.out
          obtain ⟨b2, off2, ha2, hb2, hc2⟩ := Rd.pos (show Rd w w.heap.size ca (ss.map Value.string) from HSS.out) (by simp [hsl]; omega)
          subst ha2
          obtain ⟨s, hs⟩ : ∃ s, ss[j]? = some s := ⟨ss[j]'(by rw [hsl]; exact hjt), by simp⟩
          have hcell := hc2 j (.string s) (by simp [hs])
          clear hc2 hs hsl
          go_wp2
          all_goals first
            | (go_ret; exact ⟨_, rfl, rfl⟩)
            | (go_round
               case rel => exact ⟨j + 1, _, by omega, by go_num, rfl⟩
               case measure => simp [intOf]; omega)
        · go_wp2
          all_goals first
            | (go_ret; exact ⟨_, rfl, rfl⟩)
            | (go_round
               case rel => exact ⟨k + 1, _, by omega, by go_num, rfl⟩
               case measure => simp [intOf]; omega)
    · obtain rfl : k = n := by omega
      go_wp2
      go_ret
      exact ⟨x, rfl, rfl⟩

def kdOf (z : Int) : Int := if z.tmod 3 = 0 then 0 else if z.tmod 3 = 1 ∨ z.tmod 3 = -2 then 1 else 2
theorem tmod3 (z : Int) : z.tmod 3 = -2 ∨ z.tmod 3 = -1 ∨ z.tmod 3 = 0 ∨ z.tmod 3 = 1 ∨ z.tmod 3 = 2 := by
  have h1 := Int.tmod_lt_of_pos z (show (0 : Int) < 3 by omega)
  have h2 := Int.lt_tmod_of_pos z (show (0 : Int) < 3 by omega)
  omega
theorem kind14 (z : Int) (w : World) : Calls Tryf.prog 14 #[.int .i64 z] w fun e w' => e = .returned (.int .i64 (kdOf z)) ∧ w = w' := by
  unfold kdOf
  rcases tmod3 z with h | h | h | h | h
  all_goals
    go_enter Tryf.func14, Tryf.ntmps14
    go_wp2
    go_ret
    exact ⟨by first | rfl | (rw [h]; rfl), rfl⟩

def sumB (es : List LE) : Int := es.foldl (fun s e => wrap64 (s + e.blanks)) 0
theorem sumB_succ (es : List LE) (k : Nat) (e : LE) (h : es[k]? = some e) : sumB (es.take (k + 1)) = wrap64 (sumB (es.take k) + e.blanks) := by
  unfold sumB
  rw [List.take_add_one, h]
  simp [List.foldl_append]
theorem sum9 (w : World) (v : Value) (f : Option (List LE)) (h : FodV w (fun b => b < w.heap.size) v f) : Calls Tryf.prog 9 #[v] w fun e w' => e = .returned (.int .i64 (sumB (f.getD []))) ∧ w = w' := by
  obtain ⟨x, cx, rfl, hle, hx, _⟩ := h.open
  clear h
  generalize f.getD [] = es at *
  generalize hn : es.length = n at *
  have HN := Lib.hid hn
  have HX := Lib.hid hx
  clear hn hx
  go_enter Tryf.func9, Tryf.ntmps9
  go_wp2
  go_loop [3, 4] (fun t i => ∃ k : Nat, k ≤ n ∧ i = .int .i64 k ∧ t = .int .i64 (sumB (es.take k))) (fun _ i => n - (intOf i).toNat)
  case atStart => exact ⟨0, Nat.zero_le _, rfl, rfl⟩
  case round =>
    obtain ⟨k, hk, rfl, rfl⟩ := hrel
    by_cases hlt : k < n
    · obtain ⟨e, he⟩ : ∃ e, es[k]? = some e := ⟨es[k]'(by rw [HN.out]; exact hlt), by simp⟩
      obtain ⟨b, off, com, hxx, hb, hcm, x0, x1, x2, x3⟩ := HX.out.at he
      subst hxx
      have HS := Lib.hid (sumB_succ es k e he)
      clear he hcm
      generalize sumB (es.take k) = s at *
      go_wp2
      go_round
      case rel => exact ⟨k + 1, by omega, by go_num, by rw [HS.out]⟩
      case measure => simp [intOf]; omega
    · obtain rfl : k = n := by omega
      have HF : es.take k = es := List.take_of_length_le (by rw [HN.out]; exact Nat.le_refl _)
      rw [HF]
      go_wp2
      go_ret
      exact ⟨rfl, rfl⟩
end Go.Proofs.YtakhhnjnohnllaaFmt
