/- The chain that the laws build. -/
import Derived.Test.YtginajepkfndoaaSpn
import Derived.Deep.DeepCutAuto
import Derived.Deep.CutBlock
import Derived.Outline
namespace Go.Proofs.Ytginajepkfndoaa
open Go.RowKit
set_option linter.unusedVariables false

theorem Spine.below {w w' : World} {X L lb : Nat} (hb : Below w.heap.size w w') : ∀ (n T b : Nat), Spine w X L lb n T b → Spine w' X L lb n T b
  | 0, _, _, h => h
  | n + 1, T, b, ⟨off, U, b', h0, h1, h2, h3⟩ => ⟨off, U, b', h0, h1, (hb.cell (World.block_lt_of_cell? w _ h2)).trans h2, Spine.below hb n U b' h3⟩

theorem Blk.newAt {w : World} {g : Nat} (h : g = w.heap.size) (t : TypeId) (cs : Array Value) : Blk (w.alloc (.cells cs t)) g t cs := by
  subst h
  exact Blk.new w t cs

/-- A copy of the side fodder: nil, or a row of its own with the cells cs. -/
def CopyV (o : Option (Nat × Array Value)) (v : Value) (W : World) : Prop :=
  match o with
  | none => v = .slice none 0 0
  | some (n, cs) => ∃ g, v = .slice (some ⟨g, 0, none⟩) n n ∧ Blk W g 61 cs
theorem CopyV.below {o : Option (Nat × Array Value)} {v : Value} {W W' : World} (h : CopyV o v W) (hb : Below W.heap.size W W') : CopyV o v W' := by
  rcases o with _ | ⟨n, cs⟩
  · exact h
  · obtain ⟨g, rfl, hg⟩ := h
    exact ⟨g, rfl, hg.under hb⟩
theorem CopyV.alloc {o : Option (Nat × Array Value)} {v : Value} {W : World} (h : CopyV o v W) (x : Obj) : CopyV o v (W.alloc x) := h.below ((Below.refl _ _).alloc (Nat.le_refl _) _)
theorem CopyV.set {o : Option (Nat × Array Value)} {v : Value} {W : World} (h : CopyV o v W) {bb t : Nat} {cs : Array Value} (hb : Blk W bb t cs) (ht : t ≠ 61) (i : Nat) (u : Value) : CopyV o v (W.setCell ⟨bb, i, none⟩ u) := by
  rcases o with _ | ⟨n, cs⟩
  · exact h
  · obtain ⟨g, rfl, hg⟩ := h
    refine ⟨g, rfl, hg.far ?_ u⟩
    intro e
    subst e
    unfold Blk at hb hg
    rw [hb] at hg
    injection hg with hg
    injection hg with _ ht'
    exact ht ht'

/-- zzCloneFodder at the side fodder. -/
def Copies (w : World) (side : Value) (o : Option (Nat × Array Value)) : Prop :=
  ∀ W, Below w.heap.size w W → Calls Try.prog 21 #[side] W fun e W' => ∃ a n c, e = .returned (.slice a n c) ∧ CopyV o (.slice a n c) W' ∧ Below W.heap.size W W'

def leafT (lk : Int) : Nat := if lk = 0 then 64 else if lk = 1 then 68 else if lk = 2 then 71 else if lk = 3 then 73 else 76

/-- The lower part of the chain: bottom and the leaf below it. -/
def PartA (w : World) (lk : Int) (leafF : Value) (o : Option (Nat × Array Value)) (s11 s12 : Value) (wx : World) : Prop :=
  ∃ (bb lb tl : Nat) (csb csl : Array Value) (vb : Value), s11 = .pointer (some ⟨bb, 0, none⟩) ∧ s12 = .pointer (some ⟨lb, leafOff (leafT lk), none⟩) ∧ Blk wx bb 45 csb ∧ Blk wx lb tl csl ∧
    csb[1]? = some (.iface (leafT lk) (.pointer (some ⟨lb, 0, none⟩))) ∧ csb[3]? = some vb ∧ CopyV o vb wx ∧ csl[leafOff (leafT lk)]? = some leafF ∧ w.heap.size ≤ bb ∧ w.heap.size ≤ lb ∧ bb ≠ lb ∧ Below w.heap.size w wx

theorem set_get {cs : Array Value} {i : Nat} {u : Value} (h : cs[i]?.isSome = true) : (cs.setIfInBounds i u)[i]? = some u := by
  rw [Array.getElem?_setIfInBounds, if_pos rfl, if_pos]
  rcases Nat.lt_or_ge i cs.size with hl | hl
  · exact hl
  · rw [Array.getElem?_eq_none hl] at h
    cases h
theorem set_keep {cs : Array Value} {i j : Nat} {u v : Value} (h : i ≠ j) (hv : cs[j]? = some v) : (cs.setIfInBounds i u)[j]? = some v := by
  rw [Array.getElem?_setIfInBounds, if_neg h]
  exact hv

/-- What zzChain leaves. -/
def Chain (w wx : World) (lk : Int) (leafF : Value) (o : Option (Nat × Array Value)) (hb bb lb n : Nat) : Prop :=
  ∃ (T b tl : Nat) (csh csb csl : Array Value) (vh vb : Value), Blk wx hb 45 csh ∧ Blk wx bb 45 csb ∧ Blk wx lb tl csl ∧ csh[1]? = some (.iface T (.pointer (some ⟨b, 0, none⟩))) ∧ Spine wx hb (leafT lk) lb n T b ∧
    csh[3]? = some vh ∧ csb[3]? = some vb ∧ csl[leafOff (leafT lk)]? = some leafF ∧ CopyV o vh wx ∧ CopyV o vb wx ∧ w.heap.size ≤ hb ∧ w.heap.size ≤ bb ∧ w.heap.size ≤ lb ∧ bb ≠ lb ∧ bb ≠ hb ∧ lb ≠ hb ∧ Below w.heap.size w wx
def ChainPost (w : World) (lk : Int) (leafF : Value) (o : Option (Nat × Array Value)) (e : Ending) (wx : World) : Prop :=
  ∃ hb bb lb n : Nat, e = .returned (.tuple #[.pointer (some ⟨hb, 0, none⟩), .pointer (some ⟨bb, 0, none⟩), .pointer (some ⟨lb, leafOff (leafT lk), none⟩)]) ∧ Chain w wx lk leafF o hb bb lb n

theorem Spine.step {w w' : World} {X L lb n T U b b' off : Nat} (h : Spine w X L lb n U b') (hb : Below w.heap.size w w') (hX : b ≠ X) (hoff : lrOff T = some off) (hc : w'.cell? ⟨b, off, none⟩ = some (.iface U (.pointer (some ⟨b', 0, none⟩)))) : Spine w' X L lb (n + 1) T b :=
  ⟨off, U, b', hX, hoff, hc, Spine.below hb n U b' h⟩
theorem Spine.set {w : World} {X L lb i : Nat} {u : Value} : ∀ (n T b : Nat), Spine w X L lb n T b → Spine (w.setCell ⟨X, i, none⟩ u) X L lb n T b
  | 0, _, _, h => h
  | n + 1, T, b, ⟨off, U, b', h0, h1, h2, h3⟩ => ⟨off, U, b', h0, h1, (World.cell?_setCell_other w ⟨X, i, none⟩ ⟨b, off, none⟩ u (by intro e; injection e with e _; exact h0 e.symm)).trans h2, Spine.set n U b' h3⟩
theorem Spine.setOther {w : World} {X L lb : Nat} {p : Addr} {v u : Value} (hp : w.cell? p = some v) (hv : ∀ U q, v ≠ .iface U q) : ∀ (n T b : Nat), Spine w X L lb n T b → Spine (w.setCell p u) X L lb n T b
  | 0, _, _, h => h
  | n + 1, T, b, ⟨off, U, b', h0, h1, h2, h3⟩ => ⟨off, U, b', h0, h1, (World.cell?_setCell_other w p ⟨b, off, none⟩ u (by intro e; subst e; rw [hp] at h2; exact hv _ _ (Option.some.inj h2))).trans h2, Spine.setOther hp hv n U b' h3⟩

/-- The loop that lays node on node. -/
def SpLoop (w4 : World) (X L lb T : Nat) (m : Int) (cur i : Value) (wr : World) : Prop :=
  ∃ b j : Nat, (j : Int) ≤ m ∧ 1 ≤ j ∧ cur = .pointer (some ⟨b, 0, none⟩) ∧ i = .int .i64 j ∧ Spine wr X L lb (j + 1) T b ∧ Below w4.heap.size w4 wr

set_option maxRecDepth 100000 in
set_option maxHeartbeats 6400000 in
theorem chain_any (w : World) (k m lk : Int) (hk0 : 0 ≤ k) (hk1 : k ≤ 5) (hm0 : 0 ≤ m) (hm1 : m ≤ 4096) (hl0 : 0 ≤ lk) (hl1 : lk ≤ 4) (la : Option Addr) (ln lc : Nat) (side : Value) (o : Option (Nat × Array Value)) (hC : Copies w side o) :
    Calls Try.prog 10 #[.int .i64 k, .int .i64 m, .int .i64 lk, .slice la ln lc, side] w fun e w' => ChainPost w lk (.slice la ln lc) o e w' := by
  have HC := Lib.hid hC
  clear hC
  go_enter Try.func10, Try.ntmps10
  go_wp2_with fail
  refine (HC.out _ (by go_grown)).mono ?_
  rintro e w1 ⟨sa, sn, sc, rfl, c1, b1⟩
  have B1 := Lib.hid ((Blk.new _ 45 _).under b1)
  rw [size1] at B1
  have G1 := Lib.hid (bel_new ((Below.refl w.heap.size w).alloc (Nat.le_refl _) _) b1 (by rw [size1]; omega))
  have zz : w.heap.size + 1 < w1.heap.size := by have := b1.size; rw [size1, size1] at this; omega
  clear b1
  have x3 := B1.out.cell 3
  have x1 := B1.out.cell 1
  have f3 := B1.out.free 3
  have f1 := B1.out.free 1
  have hbb : w.heap.size ≤ w.heap.size + 1 := by omega
  generalize w.heap.size + 1 = bb at *
  simp only [List.getElem?_toArray, List.getElem?_cons_succ, List.getElem?_cons_zero] at x1 x3
  have C1 := Lib.hid c1
  clear c1
  go_upto_block 0 with fail
  go_cut [11, 12] (fun s11 s12 wx => PartA w lk (.slice la ln lc) o s11 s12 wx)
  case first =>
    rcases (show lk = 0 ∨ lk = 1 ∨ lk = 2 ∨ lk = 3 ∨ lk = 4 by omega) with rfl | rfl | rfl | rfl | rfl
    rotate_left 3
    · go_wp2_with fail
      refine (HC.out _ ?_).mono ?_
      · exact (G1.out.1.setCell hbb _).alloc (by simp; exact G1.out.2) _
      rintro e w2 ⟨sa2, sn2, sc2, rfl, c2, b2⟩
      have B2 := Lib.hid (((B1.out.set 3 _).alloc _).under b2)
      have I2 := Lib.hid ((Blk.newAt (g := w1.heap.size) (by simp) 67 _).under b2)
      have D2 := Lib.hid (((C1.out.set B1.out (by decide) 3 _).alloc _).below b2)
      have G2 := Lib.hid (bel_new (G1.out.1.setCell hbb _) b2 (by simp; exact G1.out.2))
      have z2 : w1.heap.size < w2.heap.size := I2.out.lt
      have z1 : w.heap.size ≤ w1.heap.size := G1.out.2
      clear c2 b2 B1 C1 G1 x1 x3 f1 f3
      have x1 := B2.out.cell 1
      have f1 := B2.out.free 1
      have y1 := I2.out.cell 1
      have e1 := I2.out.free 1
      generalize w1.heap.size = ib at *
      simp only [List.setIfInBounds_toArray, List.set_cons_succ, List.set_cons_zero, List.getElem?_toArray, List.getElem?_cons_succ, List.getElem?_cons_zero] at x1 y1
      have zb : bb < w2.heap.size := by omega
      have hne : bb ≠ ib := by omega
      go_wp2_with fail
      go_meet
      exact ⟨bb, w2.heap.size, _, _, _, .slice sa sn sc, rfl, rfl, (((B2.out.far (p := ⟨ib, 1, none⟩) hne _).set 1 _).alloc _), Blk.newAt (by simp) _ _, rfl, rfl, ((D2.out.set I2.out (by decide) 1 _).set (B2.out.far (p := ⟨ib, 1, none⟩) hne _) (by decide) 1 _).alloc _, rfl, hbb, G2.out.2, by omega, ((G2.out.1.setCell z1 _).setCell hbb _).alloc (by simp; exact G2.out.2) _⟩
    · go_wp2_with fail
      refine (HC.out _ ?_).mono ?_
      · exact (G1.out.1.setCell hbb _).alloc (by simp; exact G1.out.2) _
      rintro e w2 ⟨sa2, sn2, sc2, rfl, c2, b2⟩
      have B2 := Lib.hid (((B1.out.set 3 _).alloc _).under b2)
      have I2 := Lib.hid ((Blk.newAt (g := w1.heap.size) (by simp) 67 _).under b2)
      have D2 := Lib.hid (((C1.out.set B1.out (by decide) 3 _).alloc _).below b2)
      have G2 := Lib.hid (bel_new (G1.out.1.setCell hbb _) b2 (by simp; exact G1.out.2))
      have z2 : w1.heap.size < w2.heap.size := I2.out.lt
      have z1 : w.heap.size ≤ w1.heap.size := G1.out.2
      clear c2 b2 B1 C1 G1 x1 x3 f1 f3
      have x1 := B2.out.cell 1
      have f1 := B2.out.free 1
      have y1 := I2.out.cell 1
      have e1 := I2.out.free 1
      generalize w1.heap.size = ib at *
      simp only [List.setIfInBounds_toArray, List.set_cons_succ, List.set_cons_zero, List.getElem?_toArray, List.getElem?_cons_succ, List.getElem?_cons_zero] at x1 y1
      have zb : bb < w2.heap.size := by omega
      have hne : bb ≠ ib := by omega
      go_wp2_with fail
      go_meet
      exact ⟨bb, w2.heap.size, _, _, _, .slice sa sn sc, rfl, rfl, (((B2.out.far (p := ⟨ib, 1, none⟩) hne _).set 1 _).alloc _), Blk.newAt (by simp) _ _, rfl, rfl, ((D2.out.set I2.out (by decide) 1 _).set (B2.out.far (p := ⟨ib, 1, none⟩) hne _) (by decide) 1 _).alloc _, rfl, hbb, G2.out.2, by omega, ((G2.out.1.setCell z1 _).setCell hbb _).alloc (by simp; exact G2.out.2) _⟩
    all_goals
      go_wp2_with fail
      go_meet
      exact ⟨bb, w1.heap.size, _, _, _, .slice sa sn sc, rfl, rfl, (((B1.out.set 3 _).set 1 _).alloc _), Blk.newAt (by simp) _ _, rfl, rfl, ((C1.out.set B1.out (by decide) 3 _).set (B1.out.set 3 _) (by decide) 1 _).alloc _, rfl, hbb, G1.out.2, by omega, ((G1.out.1.setCell hbb _).setCell hbb _).alloc (by simp; exact G1.out.2) _⟩
  case rest =>
    obtain ⟨bb, lb, tl, csb, csl, vb, rfl, rfl, hB, hL, e1, e2, hcp, e3, z1, z2, z3, hbel⟩ := hcut
    have HB := Lib.hid hB
    have HL := Lib.hid hL
    have E1 := Lib.hid e1
    have E2 := Lib.hid e2
    have E3 := Lib.hid e3
    have HP := Lib.hid hcp
    have HG := Lib.hid hbel
    clear hB hL e1 e2 e3 hcp hbel B1 C1 G1 x1 x3 f1 f3 zz hbb
    go_wp2_with fail
    refine (HC.out _ ?_).mono ?_
    · exact (HG.out.alloc (HG.out.size) _).alloc (by simp; exact Nat.le_succ_of_le HG.out.size) _
    rintro e w3 ⟨sa3, sn3, sc3, rfl, c3, b3⟩
    have z0 : w.heap.size ≤ wc.heap.size := HG.out.size
    have lB := HB.out.lt
    have lL := HL.out.lt
    have H3 := Lib.hid ((Blk.new _ 45 _).under b3)
    have B3 := Lib.hid (((HB.out.alloc _).alloc _).under b3)
    have L3 := Lib.hid (((HL.out.alloc _).alloc _).under b3)
    have P3 := Lib.hid (((HP.out.alloc _).alloc _).below b3)
    have G3 := Lib.hid (bel_new (HG.out.alloc z0 _) b3 (by simp; omega))
    have C3 := Lib.hid c3
    rw [size1] at H3
    clear b3 c3 HB HL HP HG
    have y1 := H3.out.cell 1
    have y3 := H3.out.cell 3
    have q1 := H3.out.free 1
    have q3 := H3.out.free 3
    simp only [List.getElem?_toArray, List.getElem?_cons_succ, List.getElem?_cons_zero] at y1 y3
    have zh : w.heap.size ≤ wc.heap.size + 1 := by omega
    have n1 : bb ≠ wc.heap.size + 1 := by omega
    have n2 : lb ≠ wc.heap.size + 1 := by omega
    have zs := H3.out.lt
    generalize wc.heap.size + 1 = hb at *
    go_upto_if 164 with fail
    have H4 := Lib.hid (H3.out.set 3 (.slice sa3 sn3 sc3))
    have B4 := Lib.hid (B3.out.far (p := ⟨hb, 3, none⟩) n1 (.slice sa3 sn3 sc3))
    have L4 := Lib.hid (L3.out.far (p := ⟨hb, 3, none⟩) n2 (.slice sa3 sn3 sc3))
    have P4 := Lib.hid (P3.out.set H3.out (by decide) 3 (.slice sa3 sn3 sc3))
    have C4 := Lib.hid (C3.out.set H3.out (by decide) 3 (.slice sa3 sn3 sc3))
    have G4 := Lib.hid (G3.out.1.setCell (p := ⟨hb, 3, none⟩) zh (.slice sa3 sn3 sc3))
    clear H3 B3 L3 P3 C3 G3 y1 y3 q1 q3 zs lB lL z0
    generalize w3.setCell ⟨hb, 3, none⟩ (.slice sa3 sn3 sc3) = w4 at *
    obtain ⟨csh, H5, s1, s3⟩ : ∃ csh, Hid (Blk w4 hb 45 csh) ∧ Hid (csh[1]? = some Value.nilIface) ∧ Hid (csh[3]? = some (Value.slice sa3 sn3 sc3)) := ⟨_, H4, Lib.hid rfl, Lib.hid rfl⟩
    clear H4
    have S0 := Lib.hid (show Spine w4 hb (leafT lk) lb 1 22 bb from ⟨1, leafT lk, lb, n1, rfl, by rw [B4.out.cell]; exact E1.out, rfl, rfl⟩)
    have zhb := H5.out.lt
    have zw := G4.out.size
    by_cases hm : m = 0
    · subst hm
      have y1 : w4.cell? ⟨hb, 1, none⟩ = some .nilIface := by rw [H5.out.cell]; exact s1.out
      have q1 := H5.out.free 1
      go_wp2_with fail
      go_ret3
      exact ⟨hb, bb, lb, 1, rfl, 22, bb, tl, _, _, _, _, vb, H5.out.set 1 _, B4.out.far (p := ⟨hb, 1, none⟩) n1 _, L4.out.far (p := ⟨hb, 1, none⟩) n2 _, set_get (by rw [s1.out]; rfl), Spine.set _ _ _ S0.out, set_keep (by decide) s3.out, E2.out, E3.out, C4.out.set H5.out (by decide) 1 _, P4.out.set H5.out (by decide) 1 _, zh, z1, z2, z3, n1, n2, G4.out.setCell (p := ⟨hb, 1, none⟩) zh _⟩
    have hmb : (m == 0) = false := by simpa using hm
    clear hm
    rcases (show k = 0 ∨ k = 1 ∨ k = 2 ∨ k = 3 ∨ k = 4 ∨ k = 5 by omega) with rfl | rfl | rfl | rfl | rfl | rfl
    · go_wp2_with fail
      go_loopw [20, 21] (fun cur i wr => SpLoop w4 hb (leafT lk) lb 80 m cur i wr) (fun _ i _ => m.toNat - (intOf i).toNat)
      case atStart => exact ⟨_, 1, by simp at hmb; omega, by omega, rfl, rfl, S0.out.step (by go_grown) (by omega) (off := 0) rfl (by simp [go_sem]), by go_grown⟩
      case round =>
        obtain ⟨b, j, hj, hj1, rfl, rfl, hsp, hbel⟩ := hrel
        have HSP := Lib.hid hsp
        clear hsp
        have zr := hbel.size
        by_cases hlt : (j : Int) < m
        · go_wp2_with fail
          go_roundw
          case rel => exact ⟨_, j + 1, by omega, by omega, rfl, by go_num, HSP.out.step (by go_grown) (by omega) (off := 0) rfl (by simp [go_sem]), hbel.trans (Below.mono (by go_grown) hbel.size)⟩
          case measure => simp [intOf]; omega
        · have Hr := Lib.hid (H5.out.under hbel)
          have y1 : wr.cell? ⟨hb, 1, none⟩ = some .nilIface := by rw [Hr.out.cell]; exact s1.out
          have q1 := Hr.out.free 1
          go_wp2_with fail
          go_ret3
          exact ⟨hb, bb, lb, j + 1, rfl, 80, b, tl, _, _, _, _, vb, Hr.out.set 1 _, (B4.out.under hbel).far (p := ⟨hb, 1, none⟩) n1 _, (L4.out.under hbel).far (p := ⟨hb, 1, none⟩) n2 _, set_get (by rw [s1.out]; rfl), Spine.set _ _ _ HSP.out, set_keep (by decide) s3.out, E2.out, E3.out, (C4.out.below hbel).set Hr.out (by decide) 1 _, (P4.out.below hbel).set Hr.out (by decide) 1 _, zh, z1, z2, z3, n1, n2, (bel_old G4.out hbel zw).1.setCell (p := ⟨hb, 1, none⟩) zh _⟩
    · go_wp2_with fail
      go_loopw [22, 23] (fun cur i wr => SpLoop w4 hb (leafT lk) lb 87 m cur i wr) (fun _ i _ => m.toNat - (intOf i).toNat)
      case atStart => exact ⟨_, 1, by simp at hmb; omega, by omega, rfl, rfl, S0.out.step (by go_grown) (by omega) (off := 0) rfl (by simp [go_sem]), by go_grown⟩
      case round =>
        obtain ⟨b, j, hj, hj1, rfl, rfl, hsp, hbel⟩ := hrel
        have HSP := Lib.hid hsp
        clear hsp
        have zr := hbel.size
        by_cases hlt : (j : Int) < m
        · go_wp2_with fail
          go_roundw
          case rel => exact ⟨_, j + 1, by omega, by omega, rfl, by go_num, HSP.out.step (by go_grown) (by omega) (off := 0) rfl (by simp [go_sem]), hbel.trans (Below.mono (by go_grown) hbel.size)⟩
          case measure => simp [intOf]; omega
        · have Hr := Lib.hid (H5.out.under hbel)
          have y1 : wr.cell? ⟨hb, 1, none⟩ = some .nilIface := by rw [Hr.out.cell]; exact s1.out
          have q1 := Hr.out.free 1
          go_wp2_with fail
          go_ret3
          exact ⟨hb, bb, lb, j + 1, rfl, 87, b, tl, _, _, _, _, vb, Hr.out.set 1 _, (B4.out.under hbel).far (p := ⟨hb, 1, none⟩) n1 _, (L4.out.under hbel).far (p := ⟨hb, 1, none⟩) n2 _, set_get (by rw [s1.out]; rfl), Spine.set _ _ _ HSP.out, set_keep (by decide) s3.out, E2.out, E3.out, (C4.out.below hbel).set Hr.out (by decide) 1 _, (P4.out.below hbel).set Hr.out (by decide) 1 _, zh, z1, z2, z3, n1, n2, (bel_old G4.out hbel zw).1.setCell (p := ⟨hb, 1, none⟩) zh _⟩
    · go_wp2_with fail
      go_loopw [24, 25] (fun cur i wr => SpLoop w4 hb (leafT lk) lb 22 m cur i wr) (fun _ i _ => m.toNat - (intOf i).toNat)
      case atStart => exact ⟨_, 1, by simp at hmb; omega, by omega, rfl, rfl, S0.out.step (by go_grown) (by omega) (off := 1) rfl (by simp [go_sem]), by go_grown⟩
      case round =>
        obtain ⟨b, j, hj, hj1, rfl, rfl, hsp, hbel⟩ := hrel
        have HSP := Lib.hid hsp
        clear hsp
        have zr := hbel.size
        by_cases hlt : (j : Int) < m
        · go_wp2_with fail
          go_roundw
          case rel => exact ⟨_, j + 1, by omega, by omega, rfl, by go_num, HSP.out.step (by go_grown) (by omega) (off := 1) rfl (by simp [go_sem]), hbel.trans (Below.mono (by go_grown) hbel.size)⟩
          case measure => simp [intOf]; omega
        · have Hr := Lib.hid (H5.out.under hbel)
          have y1 : wr.cell? ⟨hb, 1, none⟩ = some .nilIface := by rw [Hr.out.cell]; exact s1.out
          have q1 := Hr.out.free 1
          go_wp2_with fail
          go_ret3
          exact ⟨hb, bb, lb, j + 1, rfl, 22, b, tl, _, _, _, _, vb, Hr.out.set 1 _, (B4.out.under hbel).far (p := ⟨hb, 1, none⟩) n1 _, (L4.out.under hbel).far (p := ⟨hb, 1, none⟩) n2 _, set_get (by rw [s1.out]; rfl), Spine.set _ _ _ HSP.out, set_keep (by decide) s3.out, E2.out, E3.out, (C4.out.below hbel).set Hr.out (by decide) 1 _, (P4.out.below hbel).set Hr.out (by decide) 1 _, zh, z1, z2, z3, n1, n2, (bel_old G4.out hbel zw).1.setCell (p := ⟨hb, 1, none⟩) zh _⟩
    · go_wp2_with fail
      go_loopw [26, 27] (fun cur i wr => SpLoop w4 hb (leafT lk) lb 90 m cur i wr) (fun _ i _ => m.toNat - (intOf i).toNat)
      case atStart => exact ⟨_, 1, by simp at hmb; omega, by omega, rfl, rfl, S0.out.step (by go_grown) (by omega) (off := 0) rfl (by simp [go_sem]), by go_grown⟩
      case round =>
        obtain ⟨b, j, hj, hj1, rfl, rfl, hsp, hbel⟩ := hrel
        have HSP := Lib.hid hsp
        clear hsp
        have zr := hbel.size
        by_cases hlt : (j : Int) < m
        · go_wp2_with fail
          go_roundw
          case rel => exact ⟨_, j + 1, by omega, by omega, rfl, by go_num, HSP.out.step (by go_grown) (by omega) (off := 0) rfl (by simp [go_sem]), hbel.trans (Below.mono (by go_grown) hbel.size)⟩
          case measure => simp [intOf]; omega
        · have Hr := Lib.hid (H5.out.under hbel)
          have y1 : wr.cell? ⟨hb, 1, none⟩ = some .nilIface := by rw [Hr.out.cell]; exact s1.out
          have q1 := Hr.out.free 1
          go_wp2_with fail
          go_ret3
          exact ⟨hb, bb, lb, j + 1, rfl, 90, b, tl, _, _, _, _, vb, Hr.out.set 1 _, (B4.out.under hbel).far (p := ⟨hb, 1, none⟩) n1 _, (L4.out.under hbel).far (p := ⟨hb, 1, none⟩) n2 _, set_get (by rw [s1.out]; rfl), Spine.set _ _ _ HSP.out, set_keep (by decide) s3.out, E2.out, E3.out, (C4.out.below hbel).set Hr.out (by decide) 1 _, (P4.out.below hbel).set Hr.out (by decide) 1 _, zh, z1, z2, z3, n1, n2, (bel_old G4.out hbel zw).1.setCell (p := ⟨hb, 1, none⟩) zh _⟩
    · go_wp2_with fail
      go_loopw [28, 29] (fun cur i wr => SpLoop w4 hb (leafT lk) lb 94 m cur i wr) (fun _ i _ => m.toNat - (intOf i).toNat)
      case atStart => exact ⟨_, 1, by simp at hmb; omega, by omega, rfl, rfl, S0.out.step (by go_grown) (by omega) (off := 0) rfl (by simp [go_sem]), by go_grown⟩
      case round =>
        obtain ⟨b, j, hj, hj1, rfl, rfl, hsp, hbel⟩ := hrel
        have HSP := Lib.hid hsp
        clear hsp
        have zr := hbel.size
        by_cases hlt : (j : Int) < m
        · go_wp2_with fail
          go_roundw
          case rel => exact ⟨_, j + 1, by omega, by omega, rfl, by go_num, HSP.out.step (by go_grown) (by omega) (off := 0) rfl (by simp [go_sem]), hbel.trans (Below.mono (by go_grown) hbel.size)⟩
          case measure => simp [intOf]; omega
        · have Hr := Lib.hid (H5.out.under hbel)
          have y1 : wr.cell? ⟨hb, 1, none⟩ = some .nilIface := by rw [Hr.out.cell]; exact s1.out
          have q1 := Hr.out.free 1
          go_wp2_with fail
          go_ret3
          exact ⟨hb, bb, lb, j + 1, rfl, 94, b, tl, _, _, _, _, vb, Hr.out.set 1 _, (B4.out.under hbel).far (p := ⟨hb, 1, none⟩) n1 _, (L4.out.under hbel).far (p := ⟨hb, 1, none⟩) n2 _, set_get (by rw [s1.out]; rfl), Spine.set _ _ _ HSP.out, set_keep (by decide) s3.out, E2.out, E3.out, (C4.out.below hbel).set Hr.out (by decide) 1 _, (P4.out.below hbel).set Hr.out (by decide) 1 _, zh, z1, z2, z3, n1, n2, (bel_old G4.out hbel zw).1.setCell (p := ⟨hb, 1, none⟩) zh _⟩
    · go_wp2_with fail
      go_loopw [30, 31] (fun cur i wr => SpLoop w4 hb (leafT lk) lb 97 m cur i wr) (fun _ i _ => m.toNat - (intOf i).toNat)
      case atStart => exact ⟨_, 1, by simp at hmb; omega, by omega, rfl, rfl, S0.out.step (by go_grown) (by omega) (off := 0) rfl (by simp [go_sem]), by go_grown⟩
      case round =>
        obtain ⟨b, j, hj, hj1, rfl, rfl, hsp, hbel⟩ := hrel
        have HSP := Lib.hid hsp
        clear hsp
        have zr := hbel.size
        by_cases hlt : (j : Int) < m
        · go_wp2_with fail
          go_roundw
          case rel => exact ⟨_, j + 1, by omega, by omega, rfl, by go_num, HSP.out.step (by go_grown) (by omega) (off := 0) rfl (by simp [go_sem]), hbel.trans (Below.mono (by go_grown) hbel.size)⟩
          case measure => simp [intOf]; omega
        · have Hr := Lib.hid (H5.out.under hbel)
          have y1 : wr.cell? ⟨hb, 1, none⟩ = some .nilIface := by rw [Hr.out.cell]; exact s1.out
          have q1 := Hr.out.free 1
          go_wp2_with fail
          go_ret3
          exact ⟨hb, bb, lb, j + 1, rfl, 97, b, tl, _, _, _, _, vb, Hr.out.set 1 _, (B4.out.under hbel).far (p := ⟨hb, 1, none⟩) n1 _, (L4.out.under hbel).far (p := ⟨hb, 1, none⟩) n2 _, set_get (by rw [s1.out]; rfl), Spine.set _ _ _ HSP.out, set_keep (by decide) s3.out, E2.out, E3.out, (C4.out.below hbel).set Hr.out (by decide) 1 _, (P4.out.below hbel).set Hr.out (by decide) 1 _, zh, z1, z2, z3, n1, n2, (bel_old G4.out hbel zw).1.setCell (p := ⟨hb, 1, none⟩) zh _⟩
end Go.Proofs.Ytginajepkfndoaa
