/- zzBuildChain lays a chain of import locals. -/
import Derived.Test.YtljfgplccnaboaaFmtTpi
import Derived.Test.YtljfgplccnaboaaFmtVix
namespace Go.Proofs.YtljfgplccnaboaaFmt
open Go.RowKit Go.Lib
set_option linter.unusedVariables false

def xS : ByteArray := ⟨#[120]⟩
def vrOf (same : Bool) (i : Nat) : ByteArray := if same then xS else varN i
def fodOf (bs : List Bool) (i : Nat) : Option Nat := if 0 < i ∧ bs.getD i false = true then some 1 else none
def chainN (same : Bool) (bs : List Bool) (ps : List ByteArray) : List NE := ps.mapIdx fun i p => ⟨fodOf bs i, p, vrOf same i⟩
theorem chainN_len (same : Bool) (bs : List Bool) (ps : List ByteArray) : (chainN same bs ps).length = ps.length := by simp [chainN]
theorem chainN_at {same : Bool} {bs : List Bool} {ps : List ByteArray} {i : Nat} {p : ByteArray} (h : ps[i]? = some p) : (chainN same bs ps).drop i = ⟨fodOf bs i, p, vrOf same i⟩ :: (chainN same bs ps).drop (i + 1) := by
  obtain ⟨hi, rfl⟩ := List.getElem?_eq_some_iff.1 h
  rw [List.drop_eq_getElem_cons (by rw [chainN_len]; exact hi)]
  simp [chainN]
def NewT (B : Nat) (w : World) (b : Nat) : Prop := B < b ∧ b < w.heap.size
theorem NewT.mono {B b : Nat} {w w' : World} (h : NewT B w b) (hs : w.heap.size ≤ w'.heap.size) : NewT B w' b := ⟨h.1, Nat.lt_of_lt_of_le h.2 hs⟩
def HeadOf (ns : List NE) (v hd : Value) : Prop := (ns = [] ∧ hd = .pointer none) ∨ (ns ≠ [] ∧ ∃ lb, v = locV lb ∧ hd = .pointer (some ⟨lb, 0, none⟩))
def BuiltC (w : World) (ns : List NE) (e : Ending) (w' : World) : Prop :=
  ∃ v hd, e = .returned (.tuple #[hd, .pointer (some ⟨w.heap.size, 0, none⟩)]) ∧ ChainAt w' (NewT w.heap.size w') w.heap.size ns v ∧ HeadOf ns v hd ∧ TailAt w' (NewT w.heap.size w') w.heap.size none ∧ Below w.heap.size w w'
theorem node_new (wr : World) (B : Nat) (path var : ByteArray) (body : Value) (ns : List NE) (o : Option Nat) (hB : B < wr.heap.size) (hc : ChainAt wr (NewT B wr) B ns body) (W : World)
    (hW : W = (((wr.alloc (.cells (litC path).toArray 72)).alloc (.cells (impC wr.heap.size).toArray 74)).alloc (.cells (bindC (wr.heap.size + 1) var).toArray 53)).alloc (.cells (locC (wr.heap.size + 2) body (.slice none 0 0)).toArray 78)) :
    ChainAt W (NewT B W) B (⟨none, path, var⟩ :: ns) (locV (wr.heap.size + 3)) := by
  subst hW
  have f := (((Fr.refl wr (fun _ => False)).alloc (.cells (litC path).toArray 72)).alloc (.cells (impC wr.heap.size).toArray 74)).alloc (.cells (bindC (wr.heap.size + 1) var).toArray 53)
  have f := f.alloc (.cells (locC (wr.heap.size + 2) body (.slice none 0 0)).toArray 78)
  refine ⟨wr.heap.size + 3, body, rfl, ⟨wr.heap.size + 2, wr.heap.size + 1, wr.heap.size, .slice none 0 0, ⟨by omega, by simp⟩, ⟨by omega, by simp⟩, ⟨by omega, by simp⟩, ⟨hB, by simp; omega⟩, ?_, ?_, ?_, ?_, rfl⟩, (hc.fr f (fun _ _ h => h)).sub (fun b hb => hb.mono f.size)⟩
  · have := Blk.new (((wr.alloc (.cells (litC path).toArray 72)).alloc (.cells (impC wr.heap.size).toArray 74)).alloc (.cells (bindC (wr.heap.size + 1) var).toArray 53)) 78 (locC (wr.heap.size + 2) body (.slice none 0 0)).toArray
    rwa [size1, size1, size1] at this
  · have := Blk.new ((wr.alloc (.cells (litC path).toArray 72)).alloc (.cells (impC wr.heap.size).toArray 74)) 53 (bindC (wr.heap.size + 1) var).toArray
    rw [size1, size1] at this
    exact this.alloc _
  · have := Blk.new (wr.alloc (.cells (litC path).toArray 72)) 74 (impC wr.heap.size).toArray
    rw [size1] at this
    exact (this.alloc _).alloc _
  · exact (((Blk.new wr 72 (litC path).toArray).alloc _).alloc _).alloc _
theorem node_newF (wr : World) (B : Nat) (path var : ByteArray) (body : Value) (ns : List NE) (hB : B < wr.heap.size) (hc : ChainAt wr (NewT B wr) B ns body) (W : World)
    (hW : W = ((((wr.alloc (.cells (litC path).toArray 72)).alloc (.cells (impC wr.heap.size).toArray 74)).alloc (.cells (bindC (wr.heap.size + 1) var).toArray 53)).alloc (.cells (locC (wr.heap.size + 2) body (.slice (some ⟨wr.heap.size + 4, 0, none⟩) 1 1)).toArray 78)).alloc (.cells (fodC none 0 1).toArray 81)) :
    ChainAt W (NewT B W) B (⟨some 1, path, var⟩ :: ns) (locV (wr.heap.size + 3)) := by
  subst hW
  have f := (((Fr.refl wr (fun _ => False)).alloc (.cells (litC path).toArray 72)).alloc (.cells (impC wr.heap.size).toArray 74)).alloc (.cells (bindC (wr.heap.size + 1) var).toArray 53)
  have f := (f.alloc (.cells (locC (wr.heap.size + 2) body (.slice (some ⟨wr.heap.size + 4, 0, none⟩) 1 1)).toArray 78)).alloc (.cells (fodC none 0 1).toArray 81)
  refine ⟨wr.heap.size + 3, body, rfl, ⟨wr.heap.size + 2, wr.heap.size + 1, wr.heap.size, .slice (some ⟨wr.heap.size + 4, 0, none⟩) 1 1, ⟨by omega, by simp⟩, ⟨by omega, by simp⟩, ⟨by omega, by simp⟩, ⟨hB, by simp; omega⟩, ?_, ?_, ?_, ?_, wr.heap.size + 4, 1, rfl, ⟨by omega, by simp⟩, none, 0, [], ?_⟩, (hc.fr f (fun _ _ h => h)).sub (fun b hb => hb.mono f.size)⟩
  · have := Blk.new (((wr.alloc (.cells (litC path).toArray 72)).alloc (.cells (impC wr.heap.size).toArray 74)).alloc (.cells (bindC (wr.heap.size + 1) var).toArray 53)) 78 (locC (wr.heap.size + 2) body (.slice (some ⟨wr.heap.size + 4, 0, none⟩) 1 1)).toArray
    rw [size1, size1, size1] at this
    exact this.alloc _
  · have := Blk.new ((wr.alloc (.cells (litC path).toArray 72)).alloc (.cells (impC wr.heap.size).toArray 74)) 53 (bindC (wr.heap.size + 1) var).toArray
    rw [size1, size1] at this
    exact (this.alloc _).alloc _
  · have := Blk.new (wr.alloc (.cells (litC path).toArray 72)) 74 (impC wr.heap.size).toArray
    rw [size1] at this
    exact ((this.alloc _).alloc _).alloc _
  · exact ((((Blk.new wr 72 (litC path).toArray).alloc _).alloc _).alloc _).alloc _
  · have := Blk.new ((((wr.alloc (.cells (litC path).toArray 72)).alloc (.cells (impC wr.heap.size).toArray 74)).alloc (.cells (bindC (wr.heap.size + 1) var).toArray 53)).alloc (.cells (locC (wr.heap.size + 2) body (.slice (some ⟨wr.heap.size + 4, 0, none⟩) 1 1)).toArray 78)) 81 (fodC none 0 1).toArray
    rw [size1, size1, size1, size1] at this
    rw [List.append_nil]
    exact this
theorem itoa24 (w : World) (j : Nat) (h : j ≤ 4096) : Calls Tryf.prog 24 #[.int .i64 j] w fun e w' => e = .returned (.string ⟨(decDigits j).toArray⟩) ∧ Below w.heap.size w w' := by
  have e : itoa (j : Int) = decDigits j := itoa_nonneg j
  rw [← e]
  rcases Nat.eq_zero_or_pos j with rfl | hp
  · exact itoaZ24 w
  · exact itoaP24 w j (by omega) (by omega)
theorem var_cat (j : Nat) : (⟨#[118]⟩ : ByteArray) ++ ⟨(decDigits j).toArray⟩ = varN j := by
  apply ByteArray.ext
  rw [ByteArray.data_append]
  simp [varN]

set_option maxRecDepth 100000 in
set_option maxHeartbeats 6400000 in
theorem build11 (w : World) (na : Option Addr) (n nc : Nat) (ps : List ByteArray) (ba : Option Addr) (nb' bc : Nat) (bs : List Bool) (same : Bool) (hl : ps.length = n) (hn : n ≤ 4096) (hbl : bs.length = nb') (hbn : nb' ≤ 4096)
    (hr : Rd w w.heap.size na (ps.map Value.string)) (hb : Rd w w.heap.size ba (bs.map Value.bool)) :
    Calls Tryf.prog 11 #[.slice na n nc, .slice ba nb' bc, .bool same] w (BuiltC w (chainN same bs ps)) := by
  unfold BuiltC
  have HL := Lib.hid hl
  have HBL := Lib.hid hbl
  have HR := Lib.hid hr
  have HB := Lib.hid hb
  clear hl hbl hr hb
  go_enter Tryf.func11, Tryf.ntmps11
  go_wp2_with fail
  go_loopw [9, 10, 11] (fun body hd0 i wr => ∃ k T bb, k ≤ n ∧ i = .int .i64 ((k : Int) - 1) ∧ body = .iface T (.pointer (some ⟨bb, 0, none⟩)) ∧ Hid (ChainAt wr (NewT w.heap.size wr) w.heap.size ((chainN same bs ps).drop k) body) ∧ Hid (HeadOf ((chainN same bs ps).drop k) body hd0) ∧ Hid (Blk wr w.heap.size 66 (nb (.slice none 0 0)).toArray) ∧ Hid (Below w.heap.size w wr)) (fun _ _ i _ => (intOf i + 1).toNat)
  case atStart =>
    refine ⟨n, 29, w.heap.size, Nat.le_refl _, rfl, rfl, Lib.hid ?_, Lib.hid ?_, Lib.hid (Blk.new _ _ _), Lib.hid ((Below.refl _ _).alloc (Nat.le_refl _) _)⟩
    · rw [List.drop_of_length_le (by rw [chainN_len, HL.out]; exact Nat.le_refl _)]
      rfl
    · rw [List.drop_of_length_le (by rw [chainN_len, HL.out]; exact Nat.le_refl _)]
      exact .inl ⟨rfl, rfl⟩
  case round =>
    obtain ⟨k, T, bb, hk, rfl, rfl, hch, hhd, htl, hbel⟩ := hrel
    by_cases h0 : k = 0
    · subst h0
      go_wp2_with fail
      rw [List.drop_zero] at hch hhd
      exact bodyPost_ret (v := .tuple #[u10, .pointer (some ⟨w.heap.size, 0, none⟩)]) (by simp [results, Tryf.results11, go_sem]) rfl ⟨_, u10, rfl, hch.out, hhd.out, ⟨_, htl.out, rfl⟩, hbel.out⟩
    · obtain ⟨j, rfl⟩ : ∃ j, k = j + 1 := ⟨k - 1, by omega⟩
      have hj : (((j + 1 : Nat) : Int) - 1) = (j : Int) := by omega
      rw [hj]
      obtain ⟨p, hp⟩ : ∃ p, ps[j]? = some p := ⟨ps[j]'(by rw [HL.out]; omega), by simp⟩
      obtain ⟨pb, poff, rfl, hpb, hpc⟩ := HR.out.pos (by simp [HL.out]; omega)
      have hcell : wr.cell? ⟨pb, poff + j, none⟩ = some (.string p) := (hbel.out.cell (p := ⟨pb, poff + j, none⟩) hpb).trans (hpc j _ (by simp [hp]))
      have K24 := Lib.hid (itoa24 wr j (by omega))
      have HP := Lib.hid hp
      have hdl : ¬ (9223372036854775807 < 1 + (decDigits j).length) := by have := decDigits_length j; have := nDigits_le7 j (by omega); omega
      clear hpc hp
      cases same
      · go_wp2_with fail
        refine K24.out.mono ?_
        rintro e w1 ⟨rfl, hb1⟩
        have HCH := Lib.hid ((hch.out.fr (Fr.of_below hb1 (fun _ => False)) (fun _ _ h => h)).sub (fun b hb => hb.mono hb1.size))
        have HTL := Lib.hid (htl.out.under hb1)
        have HBEL := Lib.hid (hbel.out.trans (hb1.mono hbel.out.size))
        have hcell1 := (hb1.cell (p := ⟨pb, poff + j, none⟩) (Nat.lt_of_lt_of_le hpb hbel.out.size)).trans hcell
        clear hch hhd htl hbel hb1 hcell K24
        rcases Nat.eq_zero_or_pos j with rfl | hjp
        · rw [Nat.add_zero] at hcell1
          have HN : Hid ((chainN false bs ps).drop 0 = ⟨none, p, (⟨#[118]⟩ ++ ⟨(decDigits 0).toArray⟩)⟩ :: (chainN false bs ps).drop (0 + 1)) := Lib.hid (by rw [chainN_at HP.out, show fodOf bs 0 = none by simp [fodOf], var_cat 0]; rfl)
          go_wp2_with fail
          go_roundw
          case measure => simp [intOf]
          case rel =>
            have s1 := HBEL.out.size
            exact ⟨0, 28, w1.heap.size + 3, by omega, by go_num, rfl, Lib.hid (by rw [HN.out]; exact node_new w1 w.heap.size p (⟨#[118]⟩ ++ ⟨(decDigits 0).toArray⟩) _ _ none HTL.out.lt HCH.out _ rfl), Lib.hid (.inr ⟨by rw [HN.out]; simp, _, rfl, rfl⟩), Lib.hid ((((HTL.out.alloc _).alloc _).alloc _).alloc _), Lib.hid ((((HBEL.out.alloc s1 _).alloc (by simp; omega) _).alloc (by simp; omega) _).alloc (by simp; omega) _)⟩
        · by_cases hjb : j < nb'
          · obtain ⟨b, hbb⟩ : ∃ b, bs[j]? = some b := ⟨bs[j]'(by rw [HBL.out]; exact hjb), by simp⟩
            obtain ⟨bk, boff, rfl, hbk, hbc⟩ := HB.out.pos (by simp [HBL.out]; omega)
            have hbcell : w1.cell? ⟨bk, boff + j, none⟩ = some (.bool b) := (HBEL.out.cell (p := ⟨bk, boff + j, none⟩) hbk).trans (hbc j _ (by simp [hbb]))
            have HGD := Lib.hid (show bs.getD j false = b by simp [List.getD, hbb])
            have HJP := Lib.hid hjp
            have hbkW := Nat.lt_of_lt_of_le hbk HBEL.out.size
            have hb4 : ∀ o1 o2 o3 o4, ((((w1.alloc o1).alloc o2).alloc o3).alloc o4).cell? ⟨bk, boff + j, none⟩ = some (.bool b) := fun o1 o2 o3 o4 => (World.cell?_of_block (a := ⟨bk, boff + j, none⟩) ((((((Fr.refl w1 (fun _ => False)).alloc o1).alloc o2).alloc o3).alloc o4).block bk hbkW (fun h => h))).trans hbcell
            clear hbc hbb
            cases b
            · have HN : Hid ((chainN false bs ps).drop j = ⟨none, p, (⟨#[118]⟩ ++ ⟨(decDigits j).toArray⟩)⟩ :: (chainN false bs ps).drop (j + 1)) := Lib.hid (by rw [chainN_at HP.out, show fodOf bs j = none by unfold fodOf; rw [HGD.out]; simp, var_cat j]; rfl)
              go_wp2_with fail
              go_roundw
              case measure => simp [intOf]
              case rel =>
                have s1 := HBEL.out.size
                exact ⟨j, 28, w1.heap.size + 3, by omega, by go_num, rfl, Lib.hid (by rw [HN.out]; exact node_new w1 w.heap.size p (⟨#[118]⟩ ++ ⟨(decDigits j).toArray⟩) _ _ none HTL.out.lt HCH.out _ rfl), Lib.hid (.inr ⟨by rw [HN.out]; simp, _, rfl, rfl⟩), Lib.hid ((((HTL.out.alloc _).alloc _).alloc _).alloc _), Lib.hid ((((HBEL.out.alloc s1 _).alloc (by simp; omega) _).alloc (by simp; omega) _).alloc (by simp; omega) _)⟩
            · have HN : Hid ((chainN false bs ps).drop j = ⟨some 1, p, (⟨#[118]⟩ ++ ⟨(decDigits j).toArray⟩)⟩ :: (chainN false bs ps).drop (j + 1)) := Lib.hid (by rw [chainN_at HP.out, show fodOf bs j = some 1 by unfold fodOf; rw [HGD.out, if_pos ⟨HJP.out, rfl⟩], var_cat j]; rfl)
              go_wp2_with fail
              go_roundw
              case measure => simp [intOf]
              case rel =>
                have s1 := HBEL.out.size
                have hlt := HTL.out.lt
                exact ⟨j, 28, w1.heap.size + 3, by omega, by go_num, rfl, Lib.hid (by rw [HN.out]; exact node_newF w1 w.heap.size p (⟨#[118]⟩ ++ ⟨(decDigits j).toArray⟩) _ _ HTL.out.lt HCH.out _ rfl), Lib.hid (.inr ⟨by rw [HN.out]; simp, _, rfl, rfl⟩), Lib.hid (((((HTL.out.alloc _).alloc _).alloc _).alloc _).alloc _), Lib.hid (((((HBEL.out.alloc s1 _).alloc (by simp; omega) _).alloc (by simp; omega) _).alloc (by simp; omega) _).alloc (by simp; omega) _)⟩
          · have HN : Hid ((chainN false bs ps).drop j = ⟨none, p, (⟨#[118]⟩ ++ ⟨(decDigits j).toArray⟩)⟩ :: (chainN false bs ps).drop (j + 1)) := Lib.hid (by rw [chainN_at HP.out, show fodOf bs j = none by unfold fodOf; rw [show bs.getD j false = false by simp [List.getD, List.getElem?_eq_none (show bs.length ≤ j by rw [HBL.out]; omega)]]; simp, var_cat j]; rfl)
            go_wp2_with fail
            go_roundw
            case measure => simp [intOf]
            case rel =>
              have s1 := HBEL.out.size
              exact ⟨j, 28, w1.heap.size + 3, by omega, by go_num, rfl, Lib.hid (by rw [HN.out]; exact node_new w1 w.heap.size p (⟨#[118]⟩ ++ ⟨(decDigits j).toArray⟩) _ _ none HTL.out.lt HCH.out _ rfl), Lib.hid (.inr ⟨by rw [HN.out]; simp, _, rfl, rfl⟩), Lib.hid ((((HTL.out.alloc _).alloc _).alloc _).alloc _), Lib.hid ((((HBEL.out.alloc s1 _).alloc (by simp; omega) _).alloc (by simp; omega) _).alloc (by simp; omega) _)⟩
      · have HCH := hch
        have HTL := htl
        have HBEL := hbel
        clear hch hhd htl hbel K24
        rcases Nat.eq_zero_or_pos j with rfl | hjp
        · rw [Nat.add_zero] at hcell
          have HN : Hid ((chainN true bs ps).drop 0 = ⟨none, p, ⟨#[120]⟩⟩ :: (chainN true bs ps).drop (0 + 1)) := Lib.hid (by rw [chainN_at HP.out, show fodOf bs 0 = none by simp [fodOf]]; rfl)
          go_wp2_with fail
          go_roundw
          case measure => simp [intOf]
          case rel =>
            have s1 := HBEL.out.size
            exact ⟨0, 28, wr.heap.size + 3, by omega, by go_num, rfl, Lib.hid (by rw [HN.out]; exact node_new wr w.heap.size p ⟨#[120]⟩ _ _ none HTL.out.lt HCH.out _ rfl), Lib.hid (.inr ⟨by rw [HN.out]; simp, _, rfl, rfl⟩), Lib.hid ((((HTL.out.alloc _).alloc _).alloc _).alloc _), Lib.hid ((((HBEL.out.alloc s1 _).alloc (by simp; omega) _).alloc (by simp; omega) _).alloc (by simp; omega) _)⟩
        · by_cases hjb : j < nb'
          · obtain ⟨b, hbb⟩ : ∃ b, bs[j]? = some b := ⟨bs[j]'(by rw [HBL.out]; exact hjb), by simp⟩
            obtain ⟨bk, boff, rfl, hbk, hbc⟩ := HB.out.pos (by simp [HBL.out]; omega)
            have hbcell : wr.cell? ⟨bk, boff + j, none⟩ = some (.bool b) := (HBEL.out.cell (p := ⟨bk, boff + j, none⟩) hbk).trans (hbc j _ (by simp [hbb]))
            have HGD := Lib.hid (show bs.getD j false = b by simp [List.getD, hbb])
            have HJP := Lib.hid hjp
            have hbkW := Nat.lt_of_lt_of_le hbk HBEL.out.size
            have hb4 : ∀ o1 o2 o3 o4, ((((wr.alloc o1).alloc o2).alloc o3).alloc o4).cell? ⟨bk, boff + j, none⟩ = some (.bool b) := fun o1 o2 o3 o4 => (World.cell?_of_block (a := ⟨bk, boff + j, none⟩) ((((((Fr.refl wr (fun _ => False)).alloc o1).alloc o2).alloc o3).alloc o4).block bk hbkW (fun h => h))).trans hbcell
            clear hbc hbb
            cases b
            · have HN : Hid ((chainN true bs ps).drop j = ⟨none, p, ⟨#[120]⟩⟩ :: (chainN true bs ps).drop (j + 1)) := Lib.hid (by rw [chainN_at HP.out, show fodOf bs j = none by unfold fodOf; rw [HGD.out]; simp]; rfl)
              go_wp2_with fail
              go_roundw
              case measure => simp [intOf]
              case rel =>
                have s1 := HBEL.out.size
                exact ⟨j, 28, wr.heap.size + 3, by omega, by go_num, rfl, Lib.hid (by rw [HN.out]; exact node_new wr w.heap.size p ⟨#[120]⟩ _ _ none HTL.out.lt HCH.out _ rfl), Lib.hid (.inr ⟨by rw [HN.out]; simp, _, rfl, rfl⟩), Lib.hid ((((HTL.out.alloc _).alloc _).alloc _).alloc _), Lib.hid ((((HBEL.out.alloc s1 _).alloc (by simp; omega) _).alloc (by simp; omega) _).alloc (by simp; omega) _)⟩
            · have HN : Hid ((chainN true bs ps).drop j = ⟨some 1, p, ⟨#[120]⟩⟩ :: (chainN true bs ps).drop (j + 1)) := Lib.hid (by rw [chainN_at HP.out, show fodOf bs j = some 1 by unfold fodOf; rw [HGD.out, if_pos ⟨HJP.out, rfl⟩]]; rfl)
              go_wp2_with fail
              go_roundw
              case measure => simp [intOf]
              case rel =>
                have s1 := HBEL.out.size
                have hlt := HTL.out.lt
                exact ⟨j, 28, wr.heap.size + 3, by omega, by go_num, rfl, Lib.hid (by rw [HN.out]; exact node_newF wr w.heap.size p ⟨#[120]⟩ _ _ HTL.out.lt HCH.out _ rfl), Lib.hid (.inr ⟨by rw [HN.out]; simp, _, rfl, rfl⟩), Lib.hid (((((HTL.out.alloc _).alloc _).alloc _).alloc _).alloc _), Lib.hid (((((HBEL.out.alloc s1 _).alloc (by simp; omega) _).alloc (by simp; omega) _).alloc (by simp; omega) _).alloc (by simp; omega) _)⟩
          · have HN : Hid ((chainN true bs ps).drop j = ⟨none, p, ⟨#[120]⟩⟩ :: (chainN true bs ps).drop (j + 1)) := Lib.hid (by rw [chainN_at HP.out, show fodOf bs j = none by unfold fodOf; rw [show bs.getD j false = false by simp [List.getD, List.getElem?_eq_none (show bs.length ≤ j by rw [HBL.out]; omega)]]; simp]; rfl)
            go_wp2_with fail
            go_roundw
            case measure => simp [intOf]
            case rel =>
              have s1 := HBEL.out.size
              exact ⟨j, 28, wr.heap.size + 3, by omega, by go_num, rfl, Lib.hid (by rw [HN.out]; exact node_new wr w.heap.size p ⟨#[120]⟩ _ _ none HTL.out.lt HCH.out _ rfl), Lib.hid (.inr ⟨by rw [HN.out]; simp, _, rfl, rfl⟩), Lib.hid ((((HTL.out.alloc _).alloc _).alloc _).alloc _), Lib.hid ((((HBEL.out.alloc s1 _).alloc (by simp; omega) _).alloc (by simp; omega) _).alloc (by simp; omega) _)⟩
end Go.Proofs.YtljfgplccnaboaaFmt
