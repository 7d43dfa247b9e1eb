/- Nodes in memory: leftRecursive, leftRecursiveDeep, openFodder. -/
import Derived.Test.YtginajepkfndoaaTas
import Derived.Deep.LoopGhost
namespace Go.Proofs.Ytginajepkfndoaa
open Go.RowKit
set_option linter.unusedVariables false

/-- Where a left recursive node holds its left child, by the type of the pointer to it. -/
def lrOff (T : Nat) : Option Nat := if T = 80 then some 0 else if T = 87 then some 0 else if T = 22 then some 1 else if T = 90 then some 0 else if T = 94 then some 0 else if T = 97 then some 0 else none

set_option maxRecDepth 100000 in
theorem lr_some (w : World) (T b off : Nat) (U : Nat) (p : Option Addr) (hT : lrOff T = some off) (hc : w.cell? ⟨b, off, none⟩ = some (.iface U (.pointer p))) :
    Calls Try.prog 24 #[.iface T (.pointer (some ⟨b, 0, none⟩))] w fun e w' => e = .returned (.iface U (.pointer p)) ∧ w = w' := by
  have hcase : (T = 80 ∧ off = 0) ∨ (T = 87 ∧ off = 0) ∨ (T = 22 ∧ off = 1) ∨ (T = 90 ∧ off = 0) ∨ (T = 94 ∧ off = 0) ∨ (T = 97 ∧ off = 0) := by
    unfold lrOff at hT
    repeat' split at hT
    all_goals simp_all
  clear hT
  rcases hcase with ⟨rfl, rfl⟩ | ⟨rfl, rfl⟩ | ⟨rfl, rfl⟩ | ⟨rfl, rfl⟩ | ⟨rfl, rfl⟩ | ⟨rfl, rfl⟩
  all_goals
    go_enter Try.func24, Try.ntmps24
    go_wp2
    go_ret
    exact ⟨rfl, rfl⟩

set_option maxRecDepth 100000 in
theorem lr_none (w : World) (T : Nat) (p : Option Addr) (hT : T = 64 ∨ T = 68 ∨ T = 71 ∨ T = 73 ∨ T = 76 ∨ T = 103 ∨ T = 106) :
    Calls Try.prog 24 #[.iface T (.pointer p)] w fun e w' => e = .returned .nilIface ∧ w = w' := by
  rcases hT with rfl | rfl | rfl | rfl | rfl | rfl | rfl
  all_goals
    go_enter Try.func24, Try.ntmps24
    go_wp2
    go_ret
    exact ⟨rfl, rfl⟩

set_option maxRecDepth 100000 in
theorem lr_nil (w : World) : Calls Try.prog 24 #[.nilIface] w fun e w' => e = .returned .nilIface ∧ w = w' := by
  go_enter Try.func24, Try.ntmps24
  go_wp2
  go_ret
  exact ⟨rfl, rfl⟩

/-- A node that is not left recursive. -/
def isLeaf (T : Nat) : Prop := T = 64 ∨ T = 68 ∨ T = 71 ∨ T = 73 ∨ T = 76 ∨ T = 103 ∨ T = 106

/-- From node v, n steps to the left lead to the leaf of type L at block lb; no node on the way lies in block X. -/
def Spine (w : World) (X L lb : Nat) : Nat → Nat → Nat → Prop
  | 0, T, b => L = T ∧ lb = b
  | n + 1, T, b => ∃ off U b', b ≠ X ∧ lrOff T = some off ∧ w.cell? ⟨b, off, none⟩ = some (.iface U (.pointer (some ⟨b', 0, none⟩))) ∧ Spine w X L lb n U b'

def nodeV (T b : Nat) : Value := .iface T (.pointer (some ⟨b, 0, none⟩))

/-- What the loop of leftRecursiveDeep holds when k rounds are still to come. -/
def DeepRel (w : World) (X L lb : Nat) (k : Nat) (last left : Value) (wr : World) : Prop :=
  w = wr ∧ ∃ T b, last = nodeV T b ∧ ((k = 0 ∧ L = T ∧ lb = b ∧ left = .nilIface) ∨ (∃ n U b', k = n + 1 ∧ left = nodeV U b' ∧ Spine w X L lb n U b'))

set_option maxRecDepth 100000 in
set_option maxHeartbeats 800000 in
theorem deep_any (w : World) (X L lb : Nat) (hL : isLeaf L) (n T b : Nat) (hS : Spine w X L lb n T b) :
    Calls Try.prog 22 #[.iface T (.pointer (some ⟨b, 0, none⟩))] w fun e w' => e = .returned (.iface L (.pointer (some ⟨lb, 0, none⟩))) ∧ w = w' := by
  have HS := Lib.hid hS
  have HL := Lib.hid hL
  clear hS hL
  go_enter Try.func22, Try.ntmps22
  go_wp2_with fail
  cases n with
  | zero =>
    obtain ⟨rfl, rfl⟩ := HS.out
    refine (lr_none _ _ _ HL.out).mono ?_
    rintro e w1 ⟨rfl, rfl⟩
    go_wp2_with fail
    go_loopg [3, 4] 0 (fun k last left wr => DeepRel w X L lb k last left wr)
    case atStart => exact ⟨rfl, _, _, rfl, .inl ⟨rfl, rfl, rfl, rfl⟩⟩
    case round =>
      obtain ⟨rfl, T', b', rfl, hh⟩ := hrel
      rcases hh with ⟨rfl, rfl, rfl, rfl⟩ | ⟨n', U, b2, rfl, rfl, hsp⟩
      · unfold nodeV
        go_wp2_with fail
        go_ret
        exact ⟨rfl, rfl⟩
      · have HSP := Lib.hid hsp
        clear hsp
        unfold nodeV
        go_wp2_with fail
        cases n' with
        | zero =>
          obtain ⟨rfl, rfl⟩ := HSP.out
          refine (lr_none _ _ _ HL.out).mono ?_
          rintro e w1 ⟨rfl, rfl⟩
          go_wp2_with fail
          go_roundg 0
          case measure => omega
          case rel => exact ⟨rfl, _, _, rfl, .inl ⟨rfl, rfl, rfl, rfl⟩⟩
        | succ n' =>
          obtain ⟨off, U2, b3, _, hoff, hcell, hsp2⟩ := HSP.out
          refine (lr_some _ _ _ off U2 _ hoff hcell).mono ?_
          rintro e w1 ⟨rfl, rfl⟩
          have HSP2 := Lib.hid hsp2
          clear hoff hcell hsp2
          go_wp2_with fail
          go_roundg (n' + 1)
          case measure => omega
          case rel => exact ⟨rfl, _, _, rfl, .inr ⟨n', _, _, rfl, rfl, HSP2.out⟩⟩
  | succ n =>
    obtain ⟨off, U1, b1, _, hoff, hcell, hsp⟩ := HS.out
    refine (lr_some _ _ _ off U1 _ hoff hcell).mono ?_
    rintro e w1 ⟨rfl, rfl⟩
    have HSP1 := Lib.hid hsp
    clear hoff hcell hsp
    go_wp2_with fail
    go_loopg [3, 4] (n + 1) (fun k last left wr => DeepRel w X L lb k last left wr)
    case atStart => exact ⟨rfl, _, _, rfl, .inr ⟨n, _, _, rfl, rfl, HSP1.out⟩⟩
    case round =>
      obtain ⟨rfl, T', b', rfl, hh⟩ := hrel
      rcases hh with ⟨rfl, rfl, rfl, rfl⟩ | ⟨n', U, b2, rfl, rfl, hsp⟩
      · unfold nodeV
        go_wp2_with fail
        go_ret
        exact ⟨rfl, rfl⟩
      · have HSP := Lib.hid hsp
        clear hsp
        unfold nodeV
        go_wp2_with fail
        cases n' with
        | zero =>
          obtain ⟨rfl, rfl⟩ := HSP.out
          refine (lr_none _ _ _ HL.out).mono ?_
          rintro e w1 ⟨rfl, rfl⟩
          go_wp2_with fail
          go_roundg 0
          case measure => omega
          case rel => exact ⟨rfl, _, _, rfl, .inl ⟨rfl, rfl, rfl, rfl⟩⟩
        | succ n' =>
          obtain ⟨off, U2, b3, _, hoff, hcell, hsp2⟩ := HSP.out
          refine (lr_some _ _ _ off U2 _ hoff hcell).mono ?_
          rintro e w1 ⟨rfl, rfl⟩
          have HSP2 := Lib.hid hsp2
          clear hoff hcell hsp2
          go_wp2_with fail
          go_roundg (n' + 1)
          case measure => omega
          case rel => exact ⟨rfl, _, _, rfl, .inr ⟨n', _, _, rfl, rfl, HSP2.out⟩⟩

/-- Where a leaf holds its own fodder. -/
def leafOff (L : Nat) : Nat := if L = 64 then 1 else if L = 68 then 0 else if L = 71 then 0 else if L = 73 then 2 else if L = 76 then 1 else if L = 103 then 5 else 1

set_option maxRecDepth 100000 in
set_option maxHeartbeats 800000 in
theorem openF_any (w : World) (X L lb : Nat) (hL : isLeaf L) (n T b : Nat) (hS : Spine w X L lb n T b) :
    Calls Try.prog 23 #[.iface T (.pointer (some ⟨b, 0, none⟩))] w fun e w' => e = .returned (.pointer (some ⟨lb, leafOff L, none⟩)) ∧ w = w' := by
  have HS := Lib.hid hS
  have hL' := hL
  have HL := Lib.hid hL'
  clear hS hL'
  rcases hL with rfl | rfl | rfl | rfl | rfl | rfl | rfl
  all_goals
    go_enter Try.func23, Try.ntmps23
    go_wp2_with fail
    refine (deep_any _ _ _ _ HL.out _ _ _ HS.out).mono ?_
    rintro e w1 ⟨rfl, rfl⟩
    go_wp2
    go_ret
    exact ⟨rfl, rfl⟩

set_option maxRecDepth 100000 in
theorem zopenF_any (w : World) (h : Nat) (X L lb : Nat) (hL : isLeaf L) (n T b : Nat) (hh : w.cell? ⟨h, 1, none⟩ = some (.iface T (.pointer (some ⟨b, 0, none⟩)))) (hS : Spine w X L lb n T b) :
    Calls Try.prog 12 #[.pointer (some ⟨h, 0, none⟩)] w fun e w' => e = .returned (.pointer (some ⟨lb, leafOff L, none⟩)) ∧ w = w' := by
  have HS := Lib.hid hS
  have HL := Lib.hid hL
  clear hS hL
  go_enter Try.func12, Try.ntmps12
  go_wp2_with fail
  refine (openF_any _ _ _ _ HL.out _ _ _ HS.out).mono ?_
  rintro e w1 ⟨rfl, rfl⟩
  go_wp2_with fail
  go_ret
  exact ⟨rfl, rfl⟩

set_option maxRecDepth 100000 in
set_option maxHeartbeats 800000 in
theorem zdeep_any (w : World) (h : Nat) (X L lb : Nat) (hL : isLeaf L) (n T b : Nat) (hh : w.cell? ⟨h, 1, none⟩ = some (.iface T (.pointer (some ⟨b, 0, none⟩)))) (hS : Spine w X L lb n T b) :
    Calls Try.prog 11 #[.pointer (some ⟨h, 0, none⟩)] w fun e w' => e = .returned (.tuple #[.bool true, .pointer (some ⟨lb, leafOff L, none⟩)]) ∧ w = w' := by
  have HS := Lib.hid hS
  have hL' := hL
  have HL := Lib.hid hL'
  clear hS hL'
  rcases hL with rfl | rfl | rfl | rfl | rfl | rfl | rfl
  all_goals
    go_enter Try.func11, Try.ntmps11
    go_wp2_with fail
    refine (deep_any _ _ _ _ HL.out _ _ _ HS.out).mono ?_
    rintro e w1 ⟨rfl, rfl⟩
    go_wp2
    go_ret2
    exact ⟨rfl, rfl⟩
end Go.Proofs.Ytginajepkfndoaa
