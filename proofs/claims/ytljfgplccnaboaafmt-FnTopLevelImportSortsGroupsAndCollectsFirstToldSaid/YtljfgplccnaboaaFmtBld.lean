/- buildGroupAST. -/
import Derived.Test.YtljfgplccnaboaaFmtEns
namespace Go.Proofs.YtljfgplccnaboaaFmt
open Go.RowKit
set_option linter.unusedVariables false

def mkI' (g cg ib : Nat) (p : ByteArray × ByteArray) : IE := ⟨some ⟨g, 0, none⟩, 1, cg, p.1, none, 0, 0, some ib, p.2⟩
/-- An element of an import list in memory. -/
def ElAt (w : World) (S : Nat → Prop) (e : IE) (p : ByteArray × ByteArray) : Prop :=
  ∃ g cg ib sb, e = mkI' g cg ib p ∧ S g ∧ S ib ∧ S sb ∧ Blk w ib 74 (impC sb).toArray ∧ Blk w sb 72 (litC p.1).toArray
theorem ElAt.fr {w w' : World} {X S : Nat → Prop} {e : IE} {p : ByteArray × ByteArray} (h : ElAt w S e p) (f : Fr w w' X) (hX : ∀ b, S b → ¬ X b) : ElAt w' S e p := by
  obtain ⟨g, cg, ib, sb, he, h1, h2, h3, b1, b2⟩ := h
  exact ⟨g, cg, ib, sb, he, h1, h2, h3, f.blk b1 (hX _ h2), f.blk b2 (hX _ h3)⟩
/-- The element's fodder is one line end without blanks. -/
def ElFd (w : World) (e : IE) : Prop := ∃ g, e.aa = some ⟨g, 0, none⟩ ∧ FdB w g 0
def Lt (tb : Nat) (w : World) (b : Nat) : Prop := b ≠ tb ∧ b < w.heap.size
/-- A piece of a chain: from v to vend. -/
def Seg (w : World) (S : Nat → Prop) (vend : Value) : List NE → Value → Prop
  | [], v => v = vend
  | n :: ns, v => ∃ lb body, v = locV lb ∧ NodeAt w S n lb body ∧ Seg w S vend ns body
theorem Seg.fr {w w' : World} {X S : Nat → Prop} {vend : Value} {ns : List NE} {v : Value} (h : Seg w S vend ns v) (f : Fr w w' X) (hX : ∀ b, S b → ¬ X b) : Seg w' S vend ns v := by
  induction ns generalizing v with
  | nil => exact h
  | cons n ns ih =>
    obtain ⟨lb, body, rfl, hn, hc⟩ := h
    exact ⟨lb, body, rfl, hn.fr f hX, ih hc⟩
theorem Seg.sub {w : World} {S T : Nat → Prop} {vend : Value} {ns : List NE} {v : Value} (h : Seg w S vend ns v) (hT : ∀ b, S b → T b) : Seg w T vend ns v := by
  induction ns generalizing v with
  | nil => exact h
  | cons n ns ih =>
    obtain ⟨lb, body, rfl, hn, hc⟩ := h
    exact ⟨lb, body, rfl, hn.sub hT, ih hc⟩
theorem Seg.chain {w : World} {S : Nat → Prop} {tb : Nat} {vend : Value} {ns ms : List NE} {v : Value} (h : Seg w S vend ns v) (hc : ChainAt w S tb ms vend) : ChainAt w S tb (ns ++ ms) v := by
  induction ns generalizing v with
  | nil => obtain rfl : v = vend := h; exact hc
  | cons n ns ih =>
    obtain ⟨lb, body, rfl, hn, hs⟩ := h
    exact ⟨lb, body, rfl, hn, ih hs⟩
def nodesOf (o : Option Nat) (ps : List (ByteArray × ByteArray)) : List NE := ps.mapIdx fun i p => ⟨if i = 0 then o else some 0, p.1, p.2⟩
theorem nodesOf_at (o : Option Nat) (ps : List (ByteArray × ByteArray)) (i : Nat) (p : ByteArray × ByteArray) (h : ps[i]? = some p) : (nodesOf o ps).drop i = ⟨if i = 0 then o else some 0, p.1, p.2⟩ :: (nodesOf o ps).drop (i + 1) := by
  obtain ⟨hi, rfl⟩ := List.getElem?_eq_some_iff.1 h
  rw [List.drop_eq_getElem_cons (by simp [nodesOf]; exact hi)]
  simp [nodesOf]
theorem nodesOf_len (o : Option Nat) (ps : List (ByteArray × ByteArray)) : (nodesOf o ps).length = ps.length := by simp [nodesOf]

theorem seg_step (wr : World) (tb ib sb : Nat) (path var : ByteArray) (fv vend body : Value) (o : Option Nat) (ns : List NE) (htb : tb < wr.heap.size) (h2 : Lt tb wr ib) (h3 : Lt tb wr sb) (b1 : Blk wr ib 74 (impC sb).toArray) (b2 : Blk wr sb 72 (litC path).toArray)
    (hf : FdV wr (Lt tb wr) fv o) (hs : Seg wr (Lt tb wr) vend ns body) (W : World) (hW : W = (wr.alloc (.cells (bindC ib var).toArray 53)).alloc (.cells (locC wr.heap.size body fv).toArray 78)) :
    Seg W (Lt tb W) vend (⟨o, path, var⟩ :: ns) (.iface 28 (.pointer (some ⟨wr.heap.size + 1, 0, none⟩))) := by
  subst hW
  have fr := ((Fr.refl wr (fun _ => False)).alloc (.cells (bindC ib var).toArray 53)).alloc (.cells (locC wr.heap.size body fv).toArray 78)
  have hsub : ∀ b, Lt tb wr b → Lt tb ((wr.alloc (.cells (bindC ib var).toArray 53)).alloc (.cells (locC wr.heap.size body fv).toArray 78)) b := fun b hb => ⟨hb.1, by have := hb.2; simp; omega⟩
  refine ⟨wr.heap.size + 1, body, rfl, ⟨wr.heap.size, ib, sb, fv, ⟨by omega, by simp⟩, ⟨by omega, by simp; omega⟩, hsub _ h2, hsub _ h3, ?_, (Blk.new wr 53 _).alloc _, fr.blk b1 (fun h => h), fr.blk b2 (fun h => h), (hf.fr fr (fun _ _ h => h)).sub hsub⟩, (hs.fr fr (fun _ _ h => h)).sub hsub⟩
  have := Blk.new (wr.alloc (.cells (bindC ib var).toArray 53)) 78 (locC wr.heap.size body fv).toArray
  rwa [size1] at this

def BuiltG (w : World) (tb : Nat) (bv : Value) (ns : List NE) (e : Ending) (w' : World) : Prop := ∃ v, e = .returned v ∧ Seg w' (Lt tb w') bv ns v ∧ Below w.heap.size w w'

set_option maxRecDepth 100000 in
set_option maxHeartbeats 6400000 in
theorem build38 (w : World) (tb R n c : Nat) (es : List IE) (ps : List (ByteArray × ByteArray)) (rest : List Value) (bt : TypeId) (bb : Nat) (o : Option Nat) (fa : Option Addr) (fl fc : Nat)
    (hB : Blk w R 55 (cellsI es ++ rest).toArray) (hl : es.length = n) (hp : ps.length = n) (hn : n ≤ 65536) (htb : tb < w.heap.size)
    (he : ∀ (i : Nat) (e : IE) (p : ByteArray × ByteArray), es[i]? = some e → ps[i]? = some p → ElAt w (Lt tb w) e p) (hf : ∀ (i : Nat) (e : IE), i + 1 < n → es[i]? = some e → ElFd w e) (hg : FdV w (Lt tb w) (.slice fa fl fc) o) :
    Calls Tryf.prog 38 #[.slice (some ⟨R, 0, none⟩) n c, .iface bt (.pointer (some ⟨bb, 0, none⟩)), .slice fa fl fc] w (BuiltG w tb (.iface bt (.pointer (some ⟨bb, 0, none⟩))) (nodesOf o ps)) := by
  unfold BuiltG
  have hgl := hB.lt
  have HB := Lib.hid hB
  have HL := Lib.hid hl
  have HP := Lib.hid hp
  have HE := Lib.hid he
  have HF := Lib.hid hf
  have HG := Lib.hid hg
  clear hB hl hp he hf hg
  go_enter Tryf.func38, Tryf.ntmps38
  go_wp2_with fail
  go_loopw [1, 7] (fun v i wr => ∃ k lt lb : Nat, k ≤ n ∧ i = .int .i64 ((k : Int) - 1) ∧ v = .iface lt (.pointer (some ⟨lb, 0, none⟩)) ∧ Hid (Below w.heap.size w wr) ∧ Hid (Seg wr (Lt tb wr) (.iface bt (.pointer (some ⟨bb, 0, none⟩))) ((nodesOf o ps).drop k) (.iface lt (.pointer (some ⟨lb, 0, none⟩))))) (fun _ i _ => (intOf i + 1).toNat)
  case atStart => exact ⟨n, bt, bb, Nat.le_refl _, rfl, rfl, Lib.hid (Below.refl _ _), Lib.hid (by rw [List.drop_of_length_le (by rw [nodesOf_len, HP.out]; exact Nat.le_refl _)]; rfl)⟩
  case round =>
    obtain ⟨k, lt, lb, hk, rfl, rfl, hbel, hseg⟩ := hrel
    by_cases h0 : k = 0
    · subst h0
      go_wp2_with fail
      go_ret
      exact ⟨_, rfl, by simpa using hseg.out, hbel.out⟩
    · obtain ⟨j, rfl⟩ : ∃ j, k = j + 1 := ⟨k - 1, by omega⟩
      have hj : (((j + 1 : Nat) : Int) - 1) = (j : Int) := by omega
      rw [hj]
      obtain ⟨e, hee⟩ : ∃ e, es[j]? = some e := ⟨es[j]'(by rw [HL.out]; omega), by simp⟩
      obtain ⟨pp, hpp⟩ : ∃ pp, ps[j]? = some pp := ⟨ps[j]'(by rw [HP.out]; omega), by simp⟩
      have hEL := (HE.out j e pp hee hpp).fr (Fr.of_below hbel.out (fun _ => False)) (fun _ _ h => h)
      have hBw := HB.out.under hbel.out
      have hgw := hBw.lt
      have hno := nodesOf_at o ps j pp hpp
      have x0 := rowI_at hBw hee 0 (by omega)
      rw [Nat.add_zero] at x0
      have x1 := rowI_at hBw hee 1 (by omega)
      have x2 := rowI_at hBw hee 2 (by omega)
      have x3 := rowI_at hBw hee 3 (by omega)
      have x4 := rowI_at hBw hee 4 (by omega)
      have x5 := rowI_at hBw hee 5 (by omega)
      have x6 := rowI_at hBw hee 6 (by omega)
      have x7 := rowI_at hBw hee 7 (by omega)
      have x8 := rowI_at hBw hee 8 (by omega)
      have x9 := rowI_at hBw hee 9 (by omega)
      have x10 := rowI_at hBw hee 10 (by omega)
      have x11 := rowI_at hBw hee 11 (by omega)
      have x12 := rowI_at hBw hee 12 (by omega)
      have x13 := rowI_at hBw hee 13 (by omega)
      obtain ⟨g, cg, ib, sb, rfl, s1, s2, s3, b1, b2⟩ := hEL
      obtain ⟨path, var⟩ := pp
      simp only [mkI', IE.cells, bvOf, List.getElem?_cons_zero, List.getElem?_cons_succ] at x0 x1 x2 x3 x4 x5 x6 x7 x8 x9 x10 x11 x12 x13
      have HB1 := Lib.hid b1
      have HB2 := Lib.hid b2
      have HNO := Lib.hid hno
      have HBW := Lib.hid hBw
      have HEE := Lib.hid hee
      clear hee hpp b1 b2 hno hBw
      rcases Nat.eq_zero_or_pos j with h00 | h00
      · subst h00
        simp only [Nat.zero_mul, Nat.zero_add] at x0 x1 x2 x3 x4 x5 x6 x7 x8 x9 x10 x11 x12 x13
        go_wp2_with fail
        have hsz := hbel.out.size
        go_roundw
        case measure => simp [intOf]
        case rel =>
          refine ⟨0, 28, wr.heap.size + 1, by omega, by go_num, rfl, Lib.hid ((hbel.out.alloc hbel.out.size _).alloc (by simp; omega) _), Lib.hid ?_⟩
          have hno := HNO.out
          rw [hno]
          exact seg_step wr tb ib sb path var (.slice fa fl fc) _ _ _ _ (by omega) ⟨s2.1, Nat.lt_of_lt_of_le s2.2 hsz⟩ ⟨s3.1, Nat.lt_of_lt_of_le s3.2 hsz⟩ HB1.out HB2.out (by simpa using (HG.out.fr (Fr.of_below hbel.out (fun _ => False)) (fun _ _ h => h)).sub (fun b hb => ⟨hb.1, Nat.lt_of_lt_of_le hb.2 hsz⟩)) hseg.out _ rfl
      · obtain ⟨q, rfl⟩ : ∃ q, j = q + 1 := ⟨j - 1, by omega⟩
        have hq : (((q + 1 : Nat) : Int) - 1) = (q : Int) := by omega
        have hqz : (((q + 1 : Nat) : Int) == 0) = false := by simp; omega
        obtain ⟨e1, he1⟩ : ∃ e1, es[q]? = some e1 := ⟨es[q]'(by rw [HL.out]; omega), by simp⟩
        obtain ⟨p1, hp1⟩ : ∃ p1, ps[q]? = some p1 := ⟨ps[q]'(by rw [HP.out]; omega), by simp⟩
        obtain ⟨g1, cg1, ib1, sb1, rfl, t1, _, _, _, _⟩ := HE.out q e1 p1 he1 hp1
        obtain ⟨g1', hg1', hfd⟩ := HF.out q _ (by omega) he1
        obtain rfl : g1 = g1' := by
          simp only [mkI'] at hg1'
          injection hg1' with h
          injection h
        have x00 := rowI_at HBW.out he1 0 (by omega)
        rw [Nat.add_zero] at x00
        simp only [mkI', IE.cells, bvOf, List.getElem?_cons_zero] at x00
        have HF1 := Lib.hid (hfd.fr (Fr.of_below hbel.out (fun _ => False)) (fun h => h))
        clear hfd he1 hp1 hg1'
        go_wp2_with fail
        have hsz := hbel.out.size
        go_roundw
        case measure => simp [intOf]; omega
        case rel =>
          refine ⟨q + 1, 28, wr.heap.size + 1, by omega, by go_num, rfl, Lib.hid ((hbel.out.alloc hbel.out.size _).alloc (by simp; omega) _), Lib.hid ?_⟩
          have hno := HNO.out
          rw [hno]
          exact seg_step wr tb ib sb path var (.slice (some ⟨g1, 0, none⟩) 1 cg1) _ _ _ _ (by omega) ⟨s2.1, Nat.lt_of_lt_of_le s2.2 hsz⟩ ⟨s3.1, Nat.lt_of_lt_of_le s3.2 hsz⟩ HB1.out HB2.out (by simpa using ⟨g1, cg1, rfl, ⟨t1.1, Nat.lt_of_lt_of_le t1.2 hsz⟩, HF1.out⟩) hseg.out _ rfl
end Go.Proofs.YtljfgplccnaboaaFmt
