/- A chain of import locals in memory; the small functions over it. -/
import Derived.Test.YtljfgplccnaboaaFmtSg
import Derived.LaidEqlPtr
namespace Go.Proofs.YtljfgplccnaboaaFmt
open Go.RowKit
set_option linter.unusedVariables false

def bS : ByteArray := ⟨#[]⟩
/-- The nine cells of a node's base. -/
def nb (f : Value) : List Value := [f, .pointer none, .slice none 0 0, .pointer none, .string ⟨#[]⟩, .int .i64 0, .int .i64 0, .int .i64 0, .int .i64 0]
def locC (gb : Nat) (body f : Value) : List Value := .slice (some ⟨gb, 0, none⟩) 1 1 :: body :: nb f
def bindC (ib : Nat) (var : ByteArray) : List Value := [.slice none 0 0, .iface 68 (.pointer (some ⟨ib, 0, none⟩)), .slice none 0 0, .string var, .slice none 0 0, .pointer none, .pointer none, .string ⟨#[]⟩, .int .i64 0, .int .i64 0, .int .i64 0, .int .i64 0]
def impC (sb : Nat) : List Value := .pointer (some ⟨sb, 0, none⟩) :: nb (.slice none 0 0)
def litC (path : ByteArray) : List Value := .string path :: .string ⟨#[]⟩ :: .string ⟨#[]⟩ :: (nb (.slice none 0 0) ++ [.int .i64 0])
/-- A fodder: none, or one line end with k blanks. -/
def fodC (ca : Option Addr) (cc : Nat) (k : Nat) : List Value := [.slice ca 0 cc, .int .i64 0, .int .i64 k, .int .i64 0]
def FdB (w : World) (g k : Nat) : Prop := ∃ ca cc rest, Blk w g 81 (fodC ca cc k ++ rest).toArray
def FdV (w : World) (S : Nat → Prop) (v : Value) : Option Nat → Prop
  | none => v = .slice none 0 0
  | some k => ∃ g c, v = .slice (some ⟨g, 0, none⟩) 1 c ∧ S g ∧ FdB w g k
/-- What a node holds. -/
structure NE where
  fod : Option Nat
  path : ByteArray
  var : ByteArray
def locV (lb : Nat) : Value := .iface 28 (.pointer (some ⟨lb, 0, none⟩))
def nulV (tb : Nat) : Value := .iface 29 (.pointer (some ⟨tb, 0, none⟩))
def NodeAt (w : World) (S : Nat → Prop) (n : NE) (lb : Nat) (body : Value) : Prop :=
  ∃ gb ib sb fv, S lb ∧ S gb ∧ S ib ∧ S sb ∧ Blk w lb 78 (locC gb body fv).toArray ∧ Blk w gb 53 (bindC ib n.var).toArray ∧ Blk w ib 74 (impC sb).toArray ∧ Blk w sb 72 (litC n.path).toArray ∧ FdV w S fv n.fod
def ChainAt (w : World) (S : Nat → Prop) (tb : Nat) : List NE → Value → Prop
  | [], v => v = nulV tb
  | n :: ns, v => ∃ lb body, v = locV lb ∧ NodeAt w S n lb body ∧ ChainAt w S tb ns body

theorem FdB.fr {w w' : World} {X : Nat → Prop} {g k : Nat} (h : FdB w g k) (f : Fr w w' X) (hX : ¬ X g) : FdB w' g k := by
  obtain ⟨ca, cc, rest, h⟩ := h
  exact ⟨ca, cc, rest, f.blk h hX⟩
theorem FdV.fr {w w' : World} {X S : Nat → Prop} {v : Value} {o : Option Nat} (h : FdV w S v o) (f : Fr w w' X) (hX : ∀ b, S b → ¬ X b) : FdV w' S v o := by
  cases o with
  | none => exact h
  | some k =>
    obtain ⟨g, c, rfl, hS, hb⟩ := h
    exact ⟨g, c, rfl, hS, hb.fr f (hX g hS)⟩
theorem NodeAt.fr {w w' : World} {X S : Nat → Prop} {n : NE} {lb : Nat} {body : Value} (h : NodeAt w S n lb body) (f : Fr w w' X) (hX : ∀ b, S b → ¬ X b) : NodeAt w' S n lb body := by
  obtain ⟨gb, ib, sb, fv, h1, h2, h3, h4, b1, b2, b3, b4, b5⟩ := h
  exact ⟨gb, ib, sb, fv, h1, h2, h3, h4, f.blk b1 (hX _ h1), f.blk b2 (hX _ h2), f.blk b3 (hX _ h3), f.blk b4 (hX _ h4), b5.fr f hX⟩
theorem ChainAt.fr {w w' : World} {X S : Nat → Prop} {tb : Nat} {ns : List NE} {v : Value} (h : ChainAt w S tb ns v) (f : Fr w w' X) (hX : ∀ b, S b → ¬ X b) : ChainAt w' S tb ns v := by
  induction ns generalizing v with
  | nil => exact h
  | cons n ns ih =>
    obtain ⟨lb, body, rfl, hn, hc⟩ := h
    exact ⟨lb, body, rfl, hn.fr f hX, ih hc⟩
theorem FdV.sub {w : World} {S T : Nat → Prop} {v : Value} {o : Option Nat} (h : FdV w S v o) (hT : ∀ b, S b → T b) : FdV w T v o := by
  cases o with
  | none => exact h
  | some k =>
    obtain ⟨g, c, rfl, hS, hb⟩ := h
    exact ⟨g, c, rfl, hT g hS, hb⟩
theorem NodeAt.sub {w : World} {S T : Nat → Prop} {n : NE} {lb : Nat} {body : Value} (h : NodeAt w S n lb body) (hT : ∀ b, S b → T b) : NodeAt w T n lb body := by
  obtain ⟨gb, ib, sb, fv, h1, h2, h3, h4, b1, b2, b3, b4, b5⟩ := h
  exact ⟨gb, ib, sb, fv, hT _ h1, hT _ h2, hT _ h3, hT _ h4, b1, b2, b3, b4, b5.sub hT⟩
theorem ChainAt.sub {w : World} {S T : Nat → Prop} {tb : Nat} {ns : List NE} {v : Value} (h : ChainAt w S tb ns v) (hT : ∀ b, S b → T b) : ChainAt w T tb ns v := by
  induction ns generalizing v with
  | nil => exact h
  | cons n ns ih =>
    obtain ⟨lb, body, rfl, hn, hc⟩ := h
    exact ⟨lb, body, rfl, hn.sub hT, ih hc⟩

@[go_sem] theorem ta28_28 (p : Option Addr) (w : World) : (Instr.typeAssert (.iface 28 (.pointer p)) 35 28 true).run Tryf.prog w = .ok (.tuple #[.pointer p, .bool true]) w := by kernel_rfl
@[go_sem] theorem ta29_28 (p : Option Addr) (w : World) : (Instr.typeAssert (.iface 29 (.pointer p)) 35 28 true).run Tryf.prog w = .ok (.tuple #[.pointer none, .bool false]) w := by kernel_rfl
@[go_sem] theorem ta28_28f (p : Option Addr) (w : World) : (Instr.typeAssert (.iface 28 (.pointer p)) 35 28 false).run Tryf.prog w = .ok (.pointer p) w := by kernel_rfl
@[go_sem] theorem ta68_68 (p : Option Addr) (w : World) : (Instr.typeAssert (.iface 68 (.pointer p)) 35 68 true).run Tryf.prog w = .ok (.tuple #[.pointer p, .bool true]) w := by kernel_rfl
@[go_sem] theorem ta68_68f (p : Option Addr) (w : World) : (Instr.typeAssert (.iface 68 (.pointer p)) 35 68 false).run Tryf.prog w = .ok (.pointer p) w := by kernel_rfl
@[go_sem] theorem ta28_125 (p : Option Addr) (w : World) : (Instr.typeAssert (.iface 28 (.pointer p)) 35 125 true).run Tryf.prog w = .ok (.tuple #[.pointer none, .bool false]) w := by kernel_rfl
@[go_sem] theorem ta28_132 (p : Option Addr) (w : World) : (Instr.typeAssert (.iface 28 (.pointer p)) 35 132 true).run Tryf.prog w = .ok (.tuple #[.pointer none, .bool false]) w := by kernel_rfl
@[go_sem] theorem ta28_135 (p : Option Addr) (w : World) : (Instr.typeAssert (.iface 28 (.pointer p)) 35 135 true).run Tryf.prog w = .ok (.tuple #[.pointer none, .bool false]) w := by kernel_rfl
@[go_sem] theorem ta28_139 (p : Option Addr) (w : World) : (Instr.typeAssert (.iface 28 (.pointer p)) 35 139 true).run Tryf.prog w = .ok (.tuple #[.pointer none, .bool false]) w := by kernel_rfl
@[go_sem] theorem ta28_143 (p : Option Addr) (w : World) : (Instr.typeAssert (.iface 28 (.pointer p)) 35 143 true).run Tryf.prog w = .ok (.tuple #[.pointer none, .bool false]) w := by kernel_rfl
@[go_sem] theorem ta28_146 (p : Option Addr) (w : World) : (Instr.typeAssert (.iface 28 (.pointer p)) 35 146 true).run Tryf.prog w = .ok (.tuple #[.pointer none, .bool false]) w := by kernel_rfl
@[go_sem] theorem ta29_125 (p : Option Addr) (w : World) : (Instr.typeAssert (.iface 29 (.pointer p)) 35 125 true).run Tryf.prog w = .ok (.tuple #[.pointer none, .bool false]) w := by kernel_rfl
@[go_sem] theorem ta29_132 (p : Option Addr) (w : World) : (Instr.typeAssert (.iface 29 (.pointer p)) 35 132 true).run Tryf.prog w = .ok (.tuple #[.pointer none, .bool false]) w := by kernel_rfl
@[go_sem] theorem ta29_135 (p : Option Addr) (w : World) : (Instr.typeAssert (.iface 29 (.pointer p)) 35 135 true).run Tryf.prog w = .ok (.tuple #[.pointer none, .bool false]) w := by kernel_rfl
@[go_sem] theorem ta29_139 (p : Option Addr) (w : World) : (Instr.typeAssert (.iface 29 (.pointer p)) 35 139 true).run Tryf.prog w = .ok (.tuple #[.pointer none, .bool false]) w := by kernel_rfl
@[go_sem] theorem ta29_143 (p : Option Addr) (w : World) : (Instr.typeAssert (.iface 29 (.pointer p)) 35 143 true).run Tryf.prog w = .ok (.tuple #[.pointer none, .bool false]) w := by kernel_rfl
@[go_sem] theorem ta29_146 (p : Option Addr) (w : World) : (Instr.typeAssert (.iface 29 (.pointer p)) 35 146 true).run Tryf.prog w = .ok (.tuple #[.pointer none, .bool false]) w := by kernel_rfl
theorem ptr_same (W : World) (a : Addr) : (binOp .eql 28 (.pointer (some a)) (.pointer (some a))).run Tryf.prog W = .ok (.bool true) W := by
  obtain ⟨j, hj⟩ : ∃ j, Tryf.prog.info? 78 = some j := Option.isSome_iff_exists.1 (by kernel_rfl)
  exact run_eql_ptr_same (P := Tryf.prog) W a Tryf.underlying28 hj

theorem loc_cells {w : World} {g : Nat} (gb : Nat) (body f : Value) (h : Blk w g 78 (locC gb body f).toArray) : g < w.heap.size ∧ w.cell? ⟨g, 0, none⟩ = some (.slice (some ⟨gb, 0, none⟩) 1 1) ∧ w.cell? ⟨g, 1, none⟩ = some (body) ∧ w.cell? ⟨g, 2, none⟩ = some (f) ∧ w.cell? ⟨g, 3, none⟩ = some (.pointer none) ∧ w.cell? ⟨g, 4, none⟩ = some (.slice none 0 0) ∧ w.cell? ⟨g, 5, none⟩ = some (.pointer none) ∧ w.cell? ⟨g, 6, none⟩ = some (.string ⟨#[]⟩) ∧ w.cell? ⟨g, 7, none⟩ = some (.int .i64 0) ∧ w.cell? ⟨g, 8, none⟩ = some (.int .i64 0) ∧ w.cell? ⟨g, 9, none⟩ = some (.int .i64 0) ∧ w.cell? ⟨g, 10, none⟩ = some (.int .i64 0) :=
  ⟨h.lt, h.cell 0, h.cell 1, h.cell 2, h.cell 3, h.cell 4, h.cell 5, h.cell 6, h.cell 7, h.cell 8, h.cell 9, h.cell 10⟩
theorem bind_cells {w : World} {g : Nat} (ib : Nat) (var : ByteArray) (h : Blk w g 53 (bindC ib var).toArray) : g < w.heap.size ∧ w.cell? ⟨g, 0, none⟩ = some (.slice none 0 0) ∧ w.cell? ⟨g, 1, none⟩ = some (.iface 68 (.pointer (some ⟨ib, 0, none⟩))) ∧ w.cell? ⟨g, 2, none⟩ = some (.slice none 0 0) ∧ w.cell? ⟨g, 3, none⟩ = some (.string var) ∧ w.cell? ⟨g, 4, none⟩ = some (.slice none 0 0) ∧ w.cell? ⟨g, 5, none⟩ = some (.pointer none) ∧ w.cell? ⟨g, 6, none⟩ = some (.pointer none) ∧ w.cell? ⟨g, 7, none⟩ = some (.string ⟨#[]⟩) ∧ w.cell? ⟨g, 8, none⟩ = some (.int .i64 0) ∧ w.cell? ⟨g, 9, none⟩ = some (.int .i64 0) ∧ w.cell? ⟨g, 10, none⟩ = some (.int .i64 0) ∧ w.cell? ⟨g, 11, none⟩ = some (.int .i64 0) :=
  ⟨h.lt, h.cell 0, h.cell 1, h.cell 2, h.cell 3, h.cell 4, h.cell 5, h.cell 6, h.cell 7, h.cell 8, h.cell 9, h.cell 10, h.cell 11⟩
theorem imp_cells {w : World} {g : Nat} (sb : Nat) (h : Blk w g 74 (impC sb).toArray) : g < w.heap.size ∧ w.cell? ⟨g, 0, none⟩ = some (.pointer (some ⟨sb, 0, none⟩)) ∧ w.cell? ⟨g, 1, none⟩ = some (.slice none 0 0) ∧ w.cell? ⟨g, 2, none⟩ = some (.pointer none) ∧ w.cell? ⟨g, 3, none⟩ = some (.slice none 0 0) ∧ w.cell? ⟨g, 4, none⟩ = some (.pointer none) ∧ w.cell? ⟨g, 5, none⟩ = some (.string ⟨#[]⟩) ∧ w.cell? ⟨g, 6, none⟩ = some (.int .i64 0) ∧ w.cell? ⟨g, 7, none⟩ = some (.int .i64 0) ∧ w.cell? ⟨g, 8, none⟩ = some (.int .i64 0) ∧ w.cell? ⟨g, 9, none⟩ = some (.int .i64 0) :=
  ⟨h.lt, h.cell 0, h.cell 1, h.cell 2, h.cell 3, h.cell 4, h.cell 5, h.cell 6, h.cell 7, h.cell 8, h.cell 9⟩
theorem lit_cells {w : World} {g : Nat} (path : ByteArray) (h : Blk w g 72 (litC path).toArray) : g < w.heap.size ∧ w.cell? ⟨g, 0, none⟩ = some (.string path) ∧ w.cell? ⟨g, 1, none⟩ = some (.string ⟨#[]⟩) ∧ w.cell? ⟨g, 2, none⟩ = some (.string ⟨#[]⟩) ∧ w.cell? ⟨g, 3, none⟩ = some (.slice none 0 0) ∧ w.cell? ⟨g, 4, none⟩ = some (.pointer none) ∧ w.cell? ⟨g, 5, none⟩ = some (.slice none 0 0) ∧ w.cell? ⟨g, 6, none⟩ = some (.pointer none) ∧ w.cell? ⟨g, 7, none⟩ = some (.string ⟨#[]⟩) ∧ w.cell? ⟨g, 8, none⟩ = some (.int .i64 0) ∧ w.cell? ⟨g, 9, none⟩ = some (.int .i64 0) ∧ w.cell? ⟨g, 10, none⟩ = some (.int .i64 0) ∧ w.cell? ⟨g, 11, none⟩ = some (.int .i64 0) ∧ w.cell? ⟨g, 12, none⟩ = some (.int .i64 0) :=
  ⟨h.lt, h.cell 0, h.cell 1, h.cell 2, h.cell 3, h.cell 4, h.cell 5, h.cell 6, h.cell 7, h.cell 8, h.cell 9, h.cell 10, h.cell 11, h.cell 12⟩
theorem fod_cells {w : World} {g : Nat} {ca : Option Addr} {cc k : Nat} {rest : List Value} (h : Blk w g 81 (fodC ca cc k ++ rest).toArray) : g < w.heap.size ∧ w.cell? ⟨g, 0, none⟩ = some (.slice ca 0 cc) ∧ w.cell? ⟨g, 1, none⟩ = some (.int .i64 0) ∧ w.cell? ⟨g, 2, none⟩ = some (.int .i64 k) ∧ w.cell? ⟨g, 3, none⟩ = some (.int .i64 0) :=
  ⟨h.lt, (h.cell 0).trans (by simp [fodC]), (h.cell 1).trans (by simp [fodC]), (h.cell 2).trans (by simp [fodC]), (h.cell 3).trans (by simp [fodC])⟩


set_option maxRecDepth 100000 in
set_option maxHeartbeats 1600000 in
theorem good31 (w : World) (lb gb ib : Nat) (var : ByteArray) (body fv : Value) (h1 : Blk w lb 78 (locC gb body fv).toArray) (h2 : Blk w gb 53 (bindC ib var).toArray) :
    Calls Tryf.prog 31 #[.pointer (some ⟨lb, 0, none⟩)] w fun e w' => e = .returned (.bool true) ∧ Below w.heap.size w w' := by
  obtain ⟨l1, a0, _⟩ := loc_cells _ _ _ h1
  obtain ⟨l2, x0, x1, x2, x3, x4, x5, x6, x7, x8, x9, x10, x11⟩ := bind_cells _ _ h2
  clear h1 h2
  go_enter Tryf.func31, Tryf.ntmps31
  go_wp2_with fail
  go_rounds 2
  go_ret
  exact ⟨rfl, by go_grown⟩
set_option maxRecDepth 100000 in
theorem lr46 (w : World) (T : Nat) (p : Option Addr) (hT : T = 28 ∨ T = 29) :
    Calls Tryf.prog 46 #[.iface T (.pointer p)] w fun e w' => e = .returned .nilIface ∧ w = w' := by
  rcases hT with rfl | rfl
  all_goals
    go_enter Tryf.func46, Tryf.ntmps46
    go_wp2
    go_ret
    exact ⟨rfl, rfl⟩
set_option maxRecDepth 100000 in
theorem deep39 (w : World) (T : Nat) (p : Option Addr) (hT : T = 28 ∨ T = 29) :
    Calls Tryf.prog 39 #[.iface T (.pointer p)] w fun e w' => e = .returned (.iface T (.pointer p)) ∧ w = w' := by
  have K := Lib.hid (lr46 w T p hT)
  clear hT
  go_enter Tryf.func39, Tryf.ntmps39
  go_wp2_with fail
  refine K.out.mono ?_
  rintro e w1 ⟨rfl, rfl⟩
  go_wp2_with fail
  go_rounds 1
  go_ret
  exact ⟨rfl, rfl⟩
set_option maxRecDepth 100000 in
theorem open94 (w : World) (b o : Nat) :
    Calls Tryf.prog 94 #[.pointer (some ⟨b, o, none⟩)] w fun e w' => e = .returned (.pointer (some ⟨b, o, none⟩)) ∧ w = w' := by
  go_enter Tryf.func94, Tryf.ntmps94
  go_wp2_with fail
  go_ret
  exact ⟨rfl, rfl⟩
set_option maxRecDepth 100000 in
theorem open30l (w : World) (lb : Nat) :
    Calls Tryf.prog 30 #[locV lb] w fun e w' => e = .returned (.pointer (some ⟨lb, 2, none⟩)) ∧ w = w' := by
  have K := Lib.hid (deep39 w 28 (some ⟨lb, 0, none⟩) (.inl rfl))
  unfold locV
  go_enter Tryf.func30, Tryf.ntmps30
  go_wp2_with fail
  refine K.out.mono ?_
  rintro e w1 ⟨rfl, rfl⟩
  go_wp2_with fail
  refine (open94 w lb 2).mono ?_
  rintro e w1 ⟨rfl, rfl⟩
  go_wp2_with fail
  go_ret
  exact ⟨rfl, rfl⟩
set_option maxRecDepth 100000 in
theorem open30n (w : World) (tb : Nat) :
    Calls Tryf.prog 30 #[nulV tb] w fun e w' => e = .returned (.pointer (some ⟨tb, 0, none⟩)) ∧ w = w' := by
  have K := Lib.hid (deep39 w 29 (some ⟨tb, 0, none⟩) (.inr rfl))
  unfold nulV
  go_enter Tryf.func30, Tryf.ntmps30
  go_wp2_with fail
  refine K.out.mono ?_
  rintro e w1 ⟨rfl, rfl⟩
  go_wp2_with fail
  refine (open94 w tb 0).mono ?_
  rintro e w1 ⟨rfl, rfl⟩
  go_wp2_with fail
  go_ret
  exact ⟨rfl, rfl⟩
set_option maxRecDepth 100000 in
theorem good29n (w : World) (tb : Nat) :
    Calls Tryf.prog 29 #[nulV tb] w fun e w' => e = .returned (.pointer none) ∧ w = w' := by
  unfold nulV
  go_enter Tryf.func29, Tryf.ntmps29
  go_wp2_with fail
  go_ret
  exact ⟨rfl, rfl⟩
set_option maxRecDepth 100000 in
theorem good29l (w : World) (lb gb ib : Nat) (var : ByteArray) (body fv : Value) (h1 : Blk w lb 78 (locC gb body fv).toArray) (h2 : Blk w gb 53 (bindC ib var).toArray) :
    Calls Tryf.prog 29 #[locV lb] w fun e w' => e = .returned (.pointer (some ⟨lb, 0, none⟩)) ∧ Below w.heap.size w w' := by
  have K := Lib.hid (good31 w lb gb ib var body fv h1 h2)
  clear h1 h2
  unfold locV
  go_enter Tryf.func29, Tryf.ntmps29
  go_wp2_with fail
  refine K.out.mono ?_
  rintro e w1 ⟨rfl, hb⟩
  have HB := Lib.hid hb
  clear hb
  go_wp2_with fail
  go_ret
  exact ⟨rfl, HB.out⟩
end Go.Proofs.YtljfgplccnaboaaFmt
