/- FodderCountNewlines, FodderHasCleanEndline, FodderEnsureCleanNewline at an address (the slice full: its capacity its length). -/
import Derived.Test.YtlaghkppjdphnaaFmtBld
import Derived.ArgAppend
import Derived.Deep.RegionLaw
namespace Go.Proofs.YtlaghkppjdphnaaFmt
open Go.RowKit
set_option linter.unusedVariables false

/-- append at a step of a region, onto a slice that has no room: nothing that was there turns. -/
theorem step_append_full {P : Program} {w : World} {ops : Array Oper} {o : Oper} {a : Act} {K : Act → World → Prop} {Q : Exit → Act → World → Prop} {E : Prop} (hgd : o.guard = none) (s x : Operand) (t : TypeId)
    (ho : o.op = .call { callee := .builtin .append, args := #[s, x], argTypes := #[t, t] })
    (e : TypeId) (i : TypeInfo) (z : Value) (size bytes : Nat) (ht : P.underlying t = some (.slice e)) (hi : P.info? e = some i) (hz : i.zero = some z)
    (hsize : i.size = size) (hby : i.bytes = bytes) (hzs : z.cells.size = size) (hsz : 0 < size)
    (ao : Option Addr) (n : Nat) (olds : List Value) (hs : a.eval s = .slice ao n n) (hnone : ao = none → n = 0) (hlo : olds.length = n * size) (holds : ∀ b, ao = some b → ∀ j u, olds[j]? = some u → w.cell? (b.add j) = some u)
    (ad : Addr) (m c : Nat) (news : List Value) (hx : a.eval x = .slice (some ad) m c) (hl : news.length = m * size) (hnews : ∀ j u, news[j]? = some u → w.cell? (ad.add j) = some u) (h1 : ∀ u ∈ news, u.oneCell' = true)
    (hm : 0 < m) (h63 : n + m ≤ maxLen) (hbytes : (n + m) * bytes ≤ 140737488355328)
    (h : ∀ g cap w', w'.ownsRow w.heap.size e size (.slice (some ⟨g, 0, none⟩) (n + m) cap) (n + m) (olds ++ news) → w.grownBy w' none → w.heap.size ≤ g → g < w'.heap.size → K (a.put o.dst (.slice (some ⟨g, 0, none⟩) (n + m) cap)) w') :
    if Region.wanted o (yielded ops a.tmps) = true then Oper.wp P o a w K Q else E := by
  have hw : Region.wanted o (yielded ops a.tmps) = true := by simp [Region.wanted, hgd]
  rw [if_pos hw]
  have key : ∀ v' w', w'.ownsRow w.heap.size e size v' (n + m) (olds ++ news) → w.grownBy w' none → K (a.put o.dst v') w' := by
    intro v' w' h2 h3
    obtain ⟨g, cap, rfl, h4, h5⟩ := h2.form (by omega)
    exact h g cap w' h2 h3 h4 h5
  cases ao with
  | some b =>
    obtain ⟨v', w', hrun, r1, r2⟩ := run_append_arg_grows (P := P) w t o.type e i z size bytes ht hi hz hsize hby hzs hsz b n n olds hlo (holds b rfl) ad m c news hl hnews (by omega) h63 hbytes
    unfold Oper.wp
    simp [execOp, ho, resolve, invoke, builtin, hs, hx, hrun, Result.andThen]
    exact key v' w' r1 r2
  | none =>
    obtain rfl := hnone rfl
    obtain rfl : olds = [] := List.eq_nil_of_length_eq_zero (by simpa using hlo)
    obtain ⟨v', w', hrun, r1, r2, _⟩ := run_append_own (P := P) w w.heap.size t o.type e i z size bytes ht hi hz hsize hby hzs hsz (.slice none 0 0) 0 [] (World.ownsRow_nil w _ e size) ad m c news hl hnews h1 h63 hbytes (Nat.le_refl _)
    unfold Oper.wp
    simp [execOp, ho, resolve, invoke, builtin, hs, hx, hrun, Result.andThen]
    exact key v' w' r1 r2

def OkL (e : LE) : Prop := 0 ≤ e.kind ∧ e.kind ≤ 2 ∧ 0 ≤ e.blanks ∧ e.blanks ≤ 65536 ∧ (e.com.getD []).length ≤ 16384 ∧ (e.kind = 2 → 1 ≤ (e.com.getD []).length)
theorem OkQ.le {z : QE} (h : OkQ z) : OkL z.le := by
  obtain ⟨h1, h2, h3, h4, h5, h6, h7, h8, h9, h10⟩ := h
  refine ⟨h1, h2, h3, h4, ?_, fun hk => ?_⟩
  · simp [QE.le]; omega
  · have := h9 hk; simp [QE.le]; omega
def hasL (es : List LE) : Bool := es.any fun e => e.kind != 1
theorem hasL_map (zs : List QE) : hasL (zs.map QE.le) = zs.any fun z => z.kind != 1 := by simp [hasL, List.any_map, QE.le, Function.comp_def]
theorem hasL_succ (es : List LE) (k : Nat) (e : LE) (h : es[k]? = some e) : hasL (es.take (k + 1)) = (hasL (es.take k) || (e.kind != 1)) := by
  unfold hasL
  rw [List.take_add_one, h]
  simp [List.any_append]

/-- Some count: over 0 exactly where p holds. -/
def CntB (w : World) (p : Bool) (b : Nat) (e : Ending) (w' : World) : Prop := ∃ m : Nat, e = .returned (.int .i64 m) ∧ Below w.heap.size w w' ∧ m ≤ b ∧ (p = decide (0 < m))

set_option maxRecDepth 100000 in
set_option maxHeartbeats 1600000 in
theorem cntE (w : World) (S : Nat → Prop) (com : Value) (kd bl ind : Int) (c : Option (List ByteArray)) (hc : ComIs w S com c) (hok : OkL ⟨kd, bl, ind, c⟩) :
    Calls Tryf.prog 42 #[.agg #[com, .int .i64 kd, .int .i64 bl, .int .i64 ind]] w (CntB w (kd != 1) 81920) := by
  obtain ⟨a, cp, rfl, hle, _, _⟩ := hc.open
  obtain ⟨h1, h2, h3, h4, h5, h6⟩ := hok
  simp only at h1 h2 h3 h4 h5 h6
  generalize (c.getD []).length = l at *
  have HB := Lib.hid (fun o => (Below.refl w.heap.size w).alloc (Nat.le_refl _) o)
  have hk : kd = 0 ∨ kd = 1 ∨ kd = 2 := by omega
  clear hc h1 h2
  rcases hk with rfl | rfl | rfl
  · go_enter Tryf.func42, Tryf.ntmps42
    go_wp2
    go_ret
    exact ⟨1, rfl, HB.out _, by omega, rfl⟩
  · go_enter Tryf.func42, Tryf.ntmps42
    go_wp2
    go_ret
    exact ⟨0, rfl, HB.out _, by omega, rfl⟩
  · obtain ⟨b', rfl⟩ : ∃ b' : Nat, bl = b' := ⟨bl.toNat, by omega⟩
    have h7 := h6 rfl
    clear h6
    go_enter Tryf.func42, Tryf.ntmps42
    go_wp2
    go_ret
    exact ⟨l + b', by go_num, HB.out _, by omega, by simp; omega⟩

set_option maxRecDepth 100000 in
set_option maxHeartbeats 1600000 in
theorem cntF (w : World) (v : Value) (f : Option (List LE)) (hf : FodV w (fun b => b < w.heap.size) v f) (hok : ∀ e ∈ f.getD [], OkL e) :
    Calls Tryf.prog 34 #[v] w (CntB w (hasL (f.getD [])) 1374389534720) := by
  obtain ⟨x, cx, rfl, hle, hx, _⟩ := hf.open
  clear hf
  generalize f.getD [] = es at *
  generalize hn : es.length = n at *
  have HN := Lib.hid hn
  have HX := Lib.hid hx
  have HOK := Lib.hid hok
  clear hn hx hok
  go_enter Tryf.func34, Tryf.ntmps34
  go_wp2
  go_loopw [3, 8] (fun t i wr => ∃ k y : Nat, k ≤ n ∧ y ≤ k * 81920 ∧ i = .int .i64 k ∧ t = .int .i64 y ∧ Hid (hasL (es.take k) = decide (0 < y)) ∧ Hid (Below w.heap.size w wr)) (fun _ i _ => n - (intOf i).toNat)
  case atStart => exact ⟨0, 0, Nat.zero_le _, Nat.le_refl _, rfl, rfl, Lib.hid rfl, Lib.hid (Below.refl _ _)⟩
  case round =>
    obtain ⟨k, y, hk, hy, rfl, rfl, hh, hbel⟩ := hrel
    by_cases hlt : k < n
    · obtain ⟨e, he⟩ : ∃ e, es[k]? = some e := ⟨es[k]'(by rw [HN.out]; exact hlt), by simp⟩
      have hag : Agree (fun b => b < w.heap.size) w wr := Agree.of_below hbel.out fun b h => h
      obtain ⟨b, off, com, hxx, hb, hcm, x0, x1, x2, x3⟩ := (HX.out.keep hag).at he
      subst hxx
      have hbw : b < wr.heap.size := Nat.lt_of_lt_of_le hb hbel.out.size
      have K := Lib.hid (cntE (wr.alloc (.cells #[com, .int .i64 e.kind, .int .i64 e.blanks, .int .i64 e.indent] 91)) (fun b => b < w.heap.size) com e.kind e.blanks e.indent e.com (hcm.keep (Agree.alloc _ _ _ fun b h => Nat.lt_of_lt_of_le h hbel.out.size)) (HOK.out e (List.mem_of_getElem? he)))
      obtain ⟨q1, q2, q3, rfl⟩ := hcm.is_slice
      have HS := Lib.hid (hasL_succ es k e he)
      clear hcm he hag
      obtain ⟨kd, bl, ind, cm⟩ := e
      simp only at x0 x1 x2 x3 K HS
      go_wp2_with fail
      refine K.out.mono ?_
      rintro e w2 ⟨m, rfl, hb2, hm, hp⟩
      have HB2 := Lib.hid ((hbel.out.alloc hbel.out.size (.cells #[.slice q1 q2 q3, .int .i64 kd, .int .i64 bl, .int .i64 ind] 91)).trans (hb2.mono (by have := hbel.out.size; simp; omega)))
      have HP := Lib.hid hp
      have hym : y + m ≤ 2000000000000 := by omega
      clear hb2 hp K
      go_wp2_with fail
      go_roundw
      case rel => exact ⟨k + 1, y + m, by omega, by omega, by go_num, by go_num, Lib.hid (by rw [HS.out, hh.out, HP.out, ← Bool.decide_or]; congr 1; simp; omega), HB2⟩
      case measure => simp [intOf]; omega
    · obtain rfl : k = n := by omega
      have HF : es.take k = es := List.take_of_length_le (by rw [HN.out]; exact Nat.le_refl _)
      rw [HF] at hh
      go_wp2_with fail
      go_ret
      exact ⟨y, rfl, hbel.out, by omega, hh.out⟩
end Go.Proofs.YtlaghkppjdphnaaFmt
