/- The passes that do nothing: FodderElement, Fodder, LiteralNull, Visit of a null literal. -/
import Derived.Test.YtlaghkppjdphnaaFmtPro
namespace Go.Proofs.YtlaghkppjdphnaaFmt
open Go.RowKit
set_option linter.unusedVariables false

@[go_sem] theorem ta26_115 (p : Option Addr) (w : World) : (Instr.typeAssert (.iface 26 (.pointer p)) 45 115 true).run Tryf.prog w = .ok (.tuple #[.pointer none, .bool false]) w := by kernel_rfl
@[go_sem] theorem ta26_118 (p : Option Addr) (w : World) : (Instr.typeAssert (.iface 26 (.pointer p)) 45 118 true).run Tryf.prog w = .ok (.tuple #[.pointer none, .bool false]) w := by kernel_rfl
@[go_sem] theorem ta26_165 (p : Option Addr) (w : World) : (Instr.typeAssert (.iface 26 (.pointer p)) 45 165 true).run Tryf.prog w = .ok (.tuple #[.pointer none, .bool false]) w := by kernel_rfl
@[go_sem] theorem ta26_167 (p : Option Addr) (w : World) : (Instr.typeAssert (.iface 26 (.pointer p)) 45 167 true).run Tryf.prog w = .ok (.tuple #[.pointer none, .bool false]) w := by kernel_rfl
@[go_sem] theorem ta26_169 (p : Option Addr) (w : World) : (Instr.typeAssert (.iface 26 (.pointer p)) 45 169 true).run Tryf.prog w = .ok (.tuple #[.pointer none, .bool false]) w := by kernel_rfl
@[go_sem] theorem ta26_121 (p : Option Addr) (w : World) : (Instr.typeAssert (.iface 26 (.pointer p)) 45 121 true).run Tryf.prog w = .ok (.tuple #[.pointer none, .bool false]) w := by kernel_rfl
@[go_sem] theorem ta26_172 (p : Option Addr) (w : World) : (Instr.typeAssert (.iface 26 (.pointer p)) 45 172 true).run Tryf.prog w = .ok (.tuple #[.pointer none, .bool false]) w := by kernel_rfl
@[go_sem] theorem ta26_174 (p : Option Addr) (w : World) : (Instr.typeAssert (.iface 26 (.pointer p)) 45 174 true).run Tryf.prog w = .ok (.tuple #[.pointer none, .bool false]) w := by kernel_rfl
@[go_sem] theorem ta26_176 (p : Option Addr) (w : World) : (Instr.typeAssert (.iface 26 (.pointer p)) 45 176 true).run Tryf.prog w = .ok (.tuple #[.pointer none, .bool false]) w := by kernel_rfl
@[go_sem] theorem ta26_177 (p : Option Addr) (w : World) : (Instr.typeAssert (.iface 26 (.pointer p)) 45 177 true).run Tryf.prog w = .ok (.tuple #[.pointer none, .bool false]) w := by kernel_rfl
@[go_sem] theorem ta26_179 (p : Option Addr) (w : World) : (Instr.typeAssert (.iface 26 (.pointer p)) 45 179 true).run Tryf.prog w = .ok (.tuple #[.pointer none, .bool false]) w := by kernel_rfl
@[go_sem] theorem ta26_181 (p : Option Addr) (w : World) : (Instr.typeAssert (.iface 26 (.pointer p)) 45 181 true).run Tryf.prog w = .ok (.tuple #[.pointer none, .bool false]) w := by kernel_rfl
@[go_sem] theorem ta26_183 (p : Option Addr) (w : World) : (Instr.typeAssert (.iface 26 (.pointer p)) 45 183 true).run Tryf.prog w = .ok (.tuple #[.pointer none, .bool false]) w := by kernel_rfl
@[go_sem] theorem ta26_125 (p : Option Addr) (w : World) : (Instr.typeAssert (.iface 26 (.pointer p)) 45 125 true).run Tryf.prog w = .ok (.tuple #[.pointer none, .bool false]) w := by kernel_rfl
@[go_sem] theorem ta26_129 (p : Option Addr) (w : World) : (Instr.typeAssert (.iface 26 (.pointer p)) 45 129 true).run Tryf.prog w = .ok (.tuple #[.pointer none, .bool false]) w := by kernel_rfl
@[go_sem] theorem ta26_187 (p : Option Addr) (w : World) : (Instr.typeAssert (.iface 26 (.pointer p)) 45 187 true).run Tryf.prog w = .ok (.tuple #[.pointer none, .bool false]) w := by kernel_rfl
@[go_sem] theorem ta26_132 (p : Option Addr) (w : World) : (Instr.typeAssert (.iface 26 (.pointer p)) 45 132 true).run Tryf.prog w = .ok (.tuple #[.pointer none, .bool false]) w := by kernel_rfl
@[go_sem] theorem ta26_26 (p : Option Addr) (w : World) : (Instr.typeAssert (.iface 26 (.pointer p)) 45 26 true).run Tryf.prog w = .ok (.tuple #[.pointer p, .bool true]) w := by kernel_rfl

@[go_sem] theorem na_FodderElement (a : Addr) (w : World) : Sem.run Tryf.prog (nilAhead 378 48 (.pointer (some a)) "FodderElement") w = .ok (some false) w := by kernel_rfl
@[go_sem] theorem na_Fodder (a : Addr) (w : World) : Sem.run Tryf.prog (nilAhead 378 48 (.pointer (some a)) "Fodder") w = .ok (some false) w := by kernel_rfl
@[go_sem] theorem na_Visit (a : Addr) (w : World) : Sem.run Tryf.prog (nilAhead 378 48 (.pointer (some a)) "Visit") w = .ok (some false) w := by kernel_rfl
@[go_sem] theorem na_LiteralNull (a : Addr) (w : World) : Sem.run Tryf.prog (nilAhead 378 48 (.pointer (some a)) "LiteralNull") w = .ok (some false) w := by kernel_rfl

theorem openf65 (w : World) (ln o : Nat) : Calls Tryf.prog 65 #[.pointer (some ⟨ln, o, none⟩)] w fun e w' => e = .returned (.pointer (some ⟨ln, o, none⟩)) ∧ w = w' := by
  go_enter Tryf.func65, Tryf.ntmps65
  go_wp2
  go_ret
  exact ⟨rfl, rfl⟩
theorem null89 (w : World) (a b c d : Value) : Calls Tryf.prog 89 #[a, b, c, d] w fun e w' => e = .returned (.tuple #[]) ∧ w = w' := by
  go_enter Tryf.func89, Tryf.ntmps89
  go_wp2
  go_end0
  exact ⟨rfl, rfl⟩
theorem elem80 (w : World) (a b c d : Value) : Calls Tryf.prog 80 #[a, b, c, d] w fun e w' => e = .returned (.tuple #[]) ∧ w = w' := by
  go_enter Tryf.func80, Tryf.ntmps80
  go_wp2
  go_end0
  exact ⟨rfl, rfl⟩
def Fine (w : World) (e : Ending) (w' : World) : Prop := e = .returned (.tuple #[]) ∧ Below w.heap.size w w'
theorem left48 (w : World) (ln : Nat) : Calls Tryf.prog 48 #[.iface 26 (.pointer (some ⟨ln, 0, none⟩))] w fun e w' => e = .returned .nilIface ∧ w = w' := by
  go_enter Tryf.func48, Tryf.ntmps48
  go_wp2
  go_ret
  exact ⟨rfl, rfl⟩
theorem openF35 (w : World) (ln : Nat) : Calls Tryf.prog 35 #[.iface 26 (.pointer (some ⟨ln, 0, none⟩))] w fun e w' => e = .returned (.pointer (some ⟨ln, 0, none⟩)) ∧ w = w' := by
  have K : Calls Tryf.prog 43 #[.iface 26 (.pointer (some ⟨ln, 0, none⟩))] w fun e w' => e = .returned (.iface 26 (.pointer (some ⟨ln, 0, none⟩))) ∧ w = w' := by
    go_enter Tryf.func43, Tryf.ntmps43
    go_wp2_with fail
    refine (left48 w ln).mono ?_
    rintro e w1 ⟨rfl, rfl⟩
    go_wp2_with fail
    go_loop [3, 4] (fun l v => l = .iface 26 (.pointer (some ⟨ln, 0, none⟩)) ∧ v = .nilIface) (fun _ _ => 0)
    case atStart => exact ⟨rfl, rfl⟩
    case round =>
      obtain ⟨rfl, rfl⟩ := hrel
      go_wp2
      go_ret
      exact ⟨rfl, rfl⟩
  go_enter Tryf.func35, Tryf.ntmps35
  go_wp2_with fail
  refine K.mono ?_
  rintro e w1 ⟨rfl, rfl⟩
  go_wp2_with fail
  refine (openf65 _ ln 0).mono ?_
  rintro e w1 ⟨rfl, rfl⟩
  go_wp2_with fail
  go_ret
  exact ⟨rfl, rfl⟩

set_option maxRecDepth 100000 in
theorem fod68 (w : World) (c p o : Nat) (a : Option Addr) (n cap : Nat) (t : TypeId) (cs cs0 : Array Value) (hc : Blk w c 52 cs0) (hp : Blk w p t cs) (hat : cs[o]? = some (.slice a n cap)) (ha : n = 0 ∨ ∃ b off, a = some ⟨b, off, none⟩) (hn : n ≤ 16777216) (b x : Value) :
    Calls Tryf.prog 68 #[b, .iface 48 (.pointer (some ⟨c, 0, none⟩)), .pointer (some ⟨p, o, none⟩), x] w (Fine w) := by
  unfold Fine
  have c0 := hp.cell o
  rw [hat] at c0
  have pl := hp.lt
  have cl := hc.lt
  have HC := Lib.hid hc
  have HP := Lib.hid hp
  have HAT := Lib.hid hat
  clear hc hp hat
  rcases ha with rfl | ⟨ab, ao, rfl⟩
  · skip
    go_enter Tryf.func68, Tryf.ntmps68
    go_wp2
    go_loop [13] (fun i => i = .int .i64 0) (fun _ => 0)
    case atStart => rfl
    case round =>
      subst hrel
      go_wp2
      go_end0
      exact ⟨rfl, Below.refl _ _⟩
  · skip
    go_enter Tryf.func68, Tryf.ntmps68
    go_wp2_with fail
    go_loopw [13] (fun i wr => ∃ k : Nat, k ≤ n ∧ i = .int .i64 k ∧ Hid (Below w.heap.size w wr)) (fun i _ => n - (intOf i).toNat)
    case atStart => exact ⟨0, Nat.zero_le _, rfl, Lib.hid (Below.refl _ _)⟩
    case round =>
      obtain ⟨k, hk, rfl, hbel⟩ := hrel
      by_cases hlt : k < n
      · have hpr : Blk wr p t cs := (hbel.out.block p pl).trans HP.out
        have HCR : Hid (Blk wr.drew c 52 cs0) := Lib.hid ((hbel.out.block c cl).trans HC.out)
        have d0 := hpr.cell o
        rw [HAT.out] at d0
        have dl := hpr.lt
        have hmet := method_row (P := Tryf.prog) (t := 48) (fuel := 377) (name := "FodderElement") (k := 80) HCR.out (.inr (by kernel_rfl)) (by kernel_rfl)
        clear hpr c0
        go_wp2_with fail
        refine wp_region_tail 11 (by kernel_rfl) (by kernel_rfl) ?_
        simp only [List.take_succ_cons, List.take_zero, List.drop_succ_cons, List.drop_zero]
        repeat still_step
        refine wpStill_nil ?_
        go_wp2_with fail
        refine (elem80 _ _ _ _ _).mono ?_
        rintro e w2 ⟨rfl, rfl⟩
        go_wp2_with fail
        go_roundw
        case rel => exact ⟨k + 1, by omega, by go_num, Lib.hid hbel.out.drew⟩
        case measure => simp [intOf]; omega
      · obtain rfl : k = n := by omega
        go_wp2_with fail
        go_end0
        exact ⟨rfl, hbel.out⟩

def nullC (v : Value) : Array Value := #[v, .pointer none, .slice none 0 0, .pointer none, .string ⟨#[]⟩, .int .i64 0, .int .i64 0, .int .i64 0, .int .i64 0]
set_option maxRecDepth 100000 in
set_option maxHeartbeats 3200000 in
theorem visit69 (w : World) (c p o ln : Nat) (a : Option Addr) (n cap : Nat) (t : TypeId) (cs cs0 : Array Value) (hc : Blk w c 52 cs0) (hp : Blk w p t cs) (hat : cs[o]? = some (.iface 26 (.pointer (some ⟨ln, 0, none⟩)))) (hln : Blk w ln 42 (nullC (.slice a n cap))) (hpl : p ≠ ln) (hcl : c ≠ ln)
    (ha : n = 0 ∨ ∃ b off, a = some ⟨b, off, none⟩) (hn : n ≤ 16777216) (b x : Value) :
    Calls Tryf.prog 69 #[b, .iface 48 (.pointer (some ⟨c, 0, none⟩)), .pointer (some ⟨p, o, none⟩), x] w (Fine w) := by
  unfold Fine
  have p0 := hp.cell o
  rw [hat] at p0
  have pl := hp.lt
  have l0 := hln.cell 0
  simp [nullC] at l0
  have ll := hln.lt
  have lf := hln.free 0
  have cl := hc.lt
  have hmet := method_row (P := Tryf.prog) (t := 48) (fuel := 377) (name := "Fodder") (k := 68) (hc.alloc (.cells #[.slice a n cap] 28)) (.inr (by kernel_rfl)) (by kernel_rfl)
  have KF := Lib.hid (fod68 (w.alloc (.cells #[.slice a n cap] 28)) c w.heap.size 0 a n cap 28 #[.slice a n cap] cs0 (hc.alloc _) (Blk.new _ _ _) rfl ha hn (.pointer (some ⟨c, 0, none⟩)) x)
  have HC := Lib.hid hc
  have HP := Lib.hid hp
  have HLN := Lib.hid hln
  have HAT := Lib.hid hat
  clear hc hp hln hat
  go_enter Tryf.func69, Tryf.ntmps69
  go_wp2_with fail
  refine (openf65 w ln 0).mono ?_
  rintro e w1 ⟨rfl, rfl⟩
  go_wp2_with fail
  refine KF.out.mono ?_
  rintro e w1 ⟨rfl, hb1⟩
  have hs1 := hb1.size
  have hsz : (w.alloc (.cells #[.slice a n cap] 28)).heap.size = w.heap.size + 1 := by simp
  rw [hsz] at hs1
  have BF := Lib.hid ((Blk.new w 28 #[.slice a n cap]).under hb1)
  have B1 := Lib.hid (((Below.refl w.heap.size w).alloc (Nat.le_refl _) (.cells #[.slice a n cap] 28)).trans (hb1.mono (by rw [hsz]; omega)))
  clear hb1 KF hmet
  have HC1 := Lib.hid ((B1.out.block c cl).trans HC.out)
  have HP1 := Lib.hid ((B1.out.block p pl).trans HP.out)
  have HL1 : Hid (Blk w1 ln 42 (nullC (.slice a n cap))) := Lib.hid ((B1.out.block ln ll).trans HLN.out)
  have hp1 : Blk w1 p t cs := HP1.out
  have q0 := hp1.cell o
  rw [HAT.out] at q0
  have ql := hp1.lt
  have m0 := HL1.out.cell 0
  simp [nullC] at m0
  have ml := HL1.out.lt
  have mf := HL1.out.free 0
  have b0 := BF.out.cell 0
  simp at b0
  have bl := BF.out.lt
  have HC1' : Hid (Blk (w1.setCell ⟨ln, 0, none⟩ (.slice a n cap)).drew c 52 cs0) := Lib.hid (Blk.far (p := ⟨ln, 0, none⟩) HC1.out hcl _)
  have hmet := method_row (P := Tryf.prog) (t := 48) (fuel := 377) (name := "LiteralNull") (k := 89) HC1'.out (.inr (by kernel_rfl)) (by kernel_rfl)
  have hlp : ln ≠ p := fun e => hpl e.symm
  clear hp1 p0 l0 lf
  go_wp2_with fail
  refine wp_region_tail 6 (by kernel_rfl) (by kernel_rfl) ?_
  simp only [List.take_succ_cons, List.take_zero, List.drop_succ_cons, List.drop_zero]
  repeat still_step
  refine wpStill_step (fun K hK => ?_)
  go_simp
  go_invoke
  go_simp
  refine ⟨_, (openf65 _ ln 0).mono fun e w1 h => ⟨h.1, h.2.symm⟩, hK _ ?_⟩
  clear hK K
  repeat still_step
  refine wpStill_nil ?_
  go_wp2_with fail
  refine (null89 _ _ _ _ _).mono ?_
  rintro e w3 ⟨rfl, rfl⟩
  go_wp2_with fail
  go_end0
  refine ⟨rfl, ⟨B1.out.os, B1.out.tape, B1.out.output, by have := B1.out.size; simpa using this, fun k hk => ?_⟩⟩
  by_cases hkl : k = ln
  · subst hkl
    have h1 := HL1.out.set 0 (.slice a n cap)
    have h2 : (nullC (.slice a n cap)).setIfInBounds 0 (.slice a n cap) = nullC (.slice a n cap) := by simp [nullC]
    rw [h2] at h1
    exact (show (w1.setCell ⟨k, 0, none⟩ (.slice a n cap)).heap[k]? = _ from h1).trans HLN.out.symm
  · exact (Below.heap_setCell w1 ⟨ln, 0, none⟩ _ k hkl).trans (B1.out.block k hk)
end Go.Proofs.YtlaghkppjdphnaaFmt
