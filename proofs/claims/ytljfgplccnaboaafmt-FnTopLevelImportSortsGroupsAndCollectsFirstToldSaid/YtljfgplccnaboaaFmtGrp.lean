/- Fodders of a chain: groupEndsAfter, splitFodder. -/
import Derived.Test.YtljfgplccnaboaaFmtChn
import Derived.Maps.AppendAt
import Derived.Laws.AppendOwnNone
import Derived.Deep.RegionLaw
namespace Go.Proofs.YtljfgplccnaboaaFmt
open Go.RowKit
set_option linter.unusedVariables false

theorem of_hid {p : Prop} (h : Hid p) : p := h.out
theorem infE : (Tryf.prog.info? 81).map (fun i => (i.zero, i.size, i.bytes)) = some (some (.agg #[.slice none 0 0, .int .i64 0, .int .i64 0, .int .i64 0]), 4, 48) := by kernel_rfl
theorem info_parts {P : Program} {e : TypeId} {z : Value} {s b : Nat} (h : (P.info? e).map (fun i => (i.zero, i.size, i.bytes)) = some (some z, s, b)) : ∃ i : TypeInfo, P.info? e = some i ∧ i.zero = some z ∧ i.size = s ∧ i.bytes = b := by
  cases hh : P.info? e with
  | none => rw [hh] at h; cases h
  | some i => rw [hh] at h; simp only [Option.map_some, Option.some.injEq, Prod.mk.injEq] at h; exact ⟨i, rfl, h.1, h.2.1, h.2.2⟩
theorem new_cellsN (w : World) (cs : Array Value) (t : TypeId) (N : Nat) (hN : N = w.heap.size) : ∀ (j : Nat) (u : Value), cs.toList[j]? = some u → (w.alloc (.cells cs t)).cell? ((⟨N, 0, none⟩ : Addr).add j) = some u := by
  subst hN
  exact new_cells w cs t
/-- Does a group end ahead of what follows? -/
def endsB : List NE → Bool
  | [] => true
  | n :: _ => match n.fod with
    | some (_ + 1) => true
    | _ => false
/-- The fodders that occur. -/
def FK (o : Option Nat) : Prop := o = none ∨ o = some 0 ∨ o = some 1

set_option maxRecDepth 100000 in
set_option maxHeartbeats 1600000 in
theorem ends35 (w : World) (S : Nat → Prop) (tb lb gb : Nat) (body fv : Value) (ns : List NE) (h1 : Blk w lb 78 (locC gb body fv).toArray) (hc : ChainAt w S tb ns body) (hk : ∀ n ∈ ns, FK n.fod) :
    Calls Tryf.prog 35 #[.pointer (some ⟨lb, 0, none⟩)] w fun e w' => e = .returned (.bool (endsB ns)) ∧ Below w.heap.size w w' := by
  obtain ⟨l1, a0, a1, _⟩ := loc_cells _ _ _ h1
  clear h1
  cases ns with
  | nil =>
    have hb : body = nulV tb := hc
    subst hb
    have K := Lib.hid (good29n w tb)
    clear hc hk
    unfold nulV at a1 K
    go_enter Tryf.func35, Tryf.ntmps35
    go_wp2_with fail
    refine K.out.mono ?_
    rintro e w1 ⟨rfl, rfl⟩
    go_wp2_with fail
    go_ret
    exact ⟨rfl, Below.refl _ _⟩
  | cons n ns =>
    obtain ⟨lb2, body2, rfl, ⟨gb2, ib2, sb2, fv2, h1, h2, h3, h4, b1, b2, b3, b4, b5⟩, _⟩ := hc
    have K := Lib.hid (good29l w lb2 gb2 ib2 n.var body2 fv2 b1 b2)
    have hf := hk n (by simp)
    obtain ⟨l2, _, _, y2, _⟩ := loc_cells _ _ _ b1
    have Y2 := Lib.hid y2
    have L2 := Lib.hid l2
    have B5 := Lib.hid b5
    obtain ⟨fod, path, var⟩ := n
    simp only at hf B5
    clear b1 b2 b3 b4 b5 h1 h2 h3 h4 hk y2 l2
    unfold locV at a1 K
    go_enter Tryf.func35, Tryf.ntmps35
    go_wp2_with fail
    refine K.out.mono ?_
    rintro e w1 ⟨rfl, hb⟩
    have c2 := (hb.cell (p := ⟨lb2, 2, none⟩) L2.out).trans Y2.out
    have l2 := Nat.lt_of_lt_of_le L2.out hb.size
    have HB := Lib.hid hb
    have K2 := Lib.hid (open30l w1 lb2)
    have F5 := Lib.hid (B5.out.fr (Fr.of_below hb (fun _ => False)) (fun _ _ h => h))
    clear hb K a0 a1 L2 Y2 B5
    unfold locV at K2
    rcases hf with rfl | rfl | rfl
    · obtain rfl : fv2 = _ := F5.out
      go_wp2_with fail
      refine K2.out.mono ?_
      rintro e w2 ⟨rfl, rfl⟩
      go_wp2_with fail
      go_rounds 1
      go_ret
      exact ⟨rfl, HB.out⟩
    · obtain ⟨g, c, rfl, _, ca, cc, rest, hg⟩ := F5.out
      obtain ⟨gl, z0, z1, z2, z3⟩ := fod_cells hg
      clear hg F5
      go_wp2_with fail
      refine K2.out.mono ?_
      rintro e w2 ⟨rfl, rfl⟩
      go_wp2_with fail
      go_rounds 2
      go_ret
      exact ⟨rfl, HB.out.alloc HB.out.size _⟩
    · obtain ⟨g, c, rfl, _, ca, cc, rest, hg⟩ := F5.out
      obtain ⟨gl, z0, z1, z2, z3⟩ := fod_cells hg
      clear hg F5
      go_wp2_with fail
      refine K2.out.mono ?_
      rintro e w2 ⟨rfl, rfl⟩
      go_wp2_with fail
      go_rounds 2
      go_ret
      exact ⟨rfl, HB.out.alloc HB.out.size _⟩
end Go.Proofs.YtljfgplccnaboaaFmt
