/- zzWalk reads a chain. -/
import Derived.Test.YtljfgplccnaboaaFmtTpi
import Derived.Test.YtljfgplccnaboaaFmtCln
import Derived.LaidEql
namespace Go.Proofs.YtljfgplccnaboaaFmt
open Go.RowKit
set_option linter.unusedVariables false

theorem own_fr {w w' : World} {base e size n : Nat} {v : Value} {xs : List Value} {X : Nat → Prop} (h : w.ownsRow base e size v n xs) (f : Fr w w' X) (hq : ∀ q, v.ownBlock = some q → ¬ X q) : w'.ownsRow base e size v n xs := by
  refine ⟨h.1, ?_⟩
  rcases h.2 with h5 | ⟨g, cap, cur, hv, hb, hg, rest⟩
  · exact .inl h5
  · exact .inr ⟨g, cap, cur, hv, hb, (f.block g (Array.getElem?_eq_some_iff.1 hg).1 (hq g (by rw [hv]; rfl))).trans hg, rest⟩
theorem own_base {w : World} {base b e size n : Nat} {v : Value} {xs : List Value} (h : w.ownsRow base e size v n xs) (hb : b ≤ base) : w.ownsRow b e size v n xs := by
  refine ⟨h.1, ?_⟩
  rcases h.2 with h5 | ⟨g, cap, cur, hv, h6, rest⟩
  · exact .inl h5
  · exact .inr ⟨g, cap, cur, hv, Nat.le_trans hb h6, rest⟩
theorem own_ge {w : World} {base e size n g c : Nat} {a : Nat} {xs : List Value} (h : w.ownsRow base e size (.slice (some ⟨g, 0, none⟩) a c) n xs) : base ≤ g ∧ g < w.heap.size := by
  rcases h.2 with ⟨h5, _⟩ | ⟨g', cap, cur, hv, h6, hh, _⟩
  · cases h5
  · injection hv with hv
    injection hv with hv
    obtain rfl : g = g' := by injection hv
    exact ⟨h6, (Array.getElem?_eq_some_iff.1 hh).1⟩
theorem own_rd {w : World} {base e g n c B : Nat} {xs : List Value} (h : w.ownsRow base e 1 (.slice (some ⟨g, 0, none⟩) n c) n xs) (hB : w.heap.size ≤ B) : Rd w B (some ⟨g, 0, none⟩) xs := by
  obtain ⟨rest, hb⟩ := own_row h
  refine .inr ⟨g, 0, rfl, Nat.lt_of_lt_of_le hb.lt hB, fun i u hu => ?_⟩
  rw [Nat.zero_add, hb.cell]
  have hi := (List.getElem?_eq_some_iff.1 hu).1
  rw [List.getElem?_toArray, List.getElem?_append_left hi]
  exact hu
theorem Fr.to_below {w w' : World} {X : Nat → Prop} {B : Nat} (f : Fr w w' X) (hX : ∀ b, X b → B ≤ b) (hB : B ≤ w.heap.size) : Below B w w' := f.below (Below.refl _ _) hB hX
@[go_sem] theorem neq_iface29 (W : World) (tb : Nat) : (binOp .neq 35 (.iface 29 (.pointer (some ⟨tb, 0, none⟩))) (.iface 29 (.pointer (some ⟨tb, 0, none⟩)))).run Tryf.prog W = .ok (.bool false) W := by
  have h35 : Tryf.prog.underlying 35 = some (.interface (Tryf.prog.methodsAt 35)) := by kernel_rfl
  have h29 : Tryf.prog.underlying 29 = some (.pointer 66) := by kernel_rfl
  have hc : (Tryf.prog.info? 29).map (·.comparable) = some true := by kernel_rfl
  obtain ⟨j, hj⟩ : ∃ j, Tryf.prog.info? 66 = some j := Option.isSome_iff_exists.1 (by kernel_rfl)
  cases hi : Tryf.prog.info? 29 with
  | none => simp [hi] at hc
  | some i =>
    have hcc : i.comparable = true := by simpa [hi] using hc
    simp only [binOp]
    simp [Op.equal, Op.maxDepth, run_equalIn_iface_ptr_same W 9998 ⟨tb, 0, none⟩ h35 h29 hi hcc hj]
def WalkD (w : World) (n : Nat) (ns : List NE) (e : Ending) (w' : World) : Prop :=
  ∃ gk ck gv cv, e = .returned (.tuple #[.slice (some ⟨gk, 0, none⟩) n ck, .slice (some ⟨gv, 0, none⟩) n cv, .bool true]) ∧ Rd w' w'.heap.size (some ⟨gk, 0, none⟩) (ns.map fun x => .string x.path) ∧ Rd w' w'.heap.size (some ⟨gv, 0, none⟩) (ns.map fun x => .string x.var) ∧ Below w.heap.size w w'

set_option maxRecDepth 100000 in
set_option maxHeartbeats 6400000 in
theorem walk14 (w : World) (S : Nat → Prop) (tb n : Nat) (ns : List NE) (T0 bb0 : Nat) (hc : ChainAt w S tb ns (.iface T0 (.pointer (some ⟨bb0, 0, none⟩)))) (hS : ∀ b, S b → b < w.heap.size) (hl : ns.length = n) (hn : n ≤ 4096) :
    Calls Tryf.prog 14 #[.iface T0 (.pointer (some ⟨bb0, 0, none⟩)), .int .i64 n, .pointer (some ⟨tb, 0, none⟩)] w (WalkD w n ns) := by
  obtain ⟨i0, hi, hz0, hz1, hz2⟩ := info_partsC inf9
  have hmk : ∀ W, (Instr.makeSlice 22 (.int .i64 0) (.int .i64 n)).run Tryf.prog W = .ok (.slice (some ⟨W.heap.size, 0, none⟩) 0 n) (W.alloc (.cells (madeCells (Value.cells (.string ⟨#[]⟩)) (n * i0.size)) 9)) := fun W => run_make_n (P := Tryf.prog) 22 9 i0 _ Tryf.underlying22 hi hz0 .i64 .i64 0 n (Nat.zero_le _) (by rw [hz2]; omega) (by omega) W
  rw [hz1, Nat.mul_one] at hmk
  generalize hZ : madeCells (Value.cells (.string ⟨#[]⟩)) n = Z at hmk
  have HZ := Lib.hid (show Z.size = n * 1 by rw [← hZ]; simp [madeCells])
  have HL := Lib.hid hl
  have HC := Lib.hid hc
  have HS := Lib.hid hS
  have HI := Lib.hid hi
  have HZ0 := Lib.hid hz0
  have HZ1 := Lib.hid hz1
  have HZ2 := Lib.hid hz2
  clear hZ hl hc hS hi hz0 hz1 hz2
  go_enter Tryf.func14, Tryf.ntmps14
  go_wp2_with fail
  go_loopw [9, 10, 11, 12] (fun cur ks vs i wr => ∃ k T bb gk ck gv cv, k ≤ n ∧ i = .int .i64 (k : Int) ∧ cur = .iface T (.pointer (some ⟨bb, 0, none⟩)) ∧ ks = .slice (some ⟨gk, 0, none⟩) k ck ∧ vs = .slice (some ⟨gv, 0, none⟩) k cv ∧ Hid (gk ≠ gv) ∧ Hid (ChainAt w S tb (ns.drop k) (.iface T (.pointer (some ⟨bb, 0, none⟩)))) ∧ Hid (wr.ownsRow w.heap.size 9 1 (.slice (some ⟨gk, 0, none⟩) k ck) k ((ns.take k).map fun x => .string x.path)) ∧ Hid (wr.ownsRow w.heap.size 9 1 (.slice (some ⟨gv, 0, none⟩) k cv) k ((ns.take k).map fun x => .string x.var)) ∧ Hid (Below w.heap.size w wr)) (fun _ _ _ i _ => n - (intOf i).toNat)
  case atStart =>
    refine ⟨0, T0, bb0, w.heap.size, n, w.heap.size + 1, n, Nat.zero_le _, rfl, rfl, rfl, by simp, Lib.hid (by omega), HC, Lib.hid ?_, Lib.hid ?_, Lib.hid (((Below.refl _ _).alloc (Nat.le_refl _) _).alloc (by simp) _)⟩
    · exact own_fr (own_made HZ.out (by omega)) ((Fr.refl _ (fun _ => False)).alloc (.cells Z 9)) (fun _ _ h => h)
    · have := own_made (w := w.alloc (.cells Z 9)) (e := 9) HZ.out (by omega)
      rw [size1] at this
      exact own_base this (by omega)
  case round =>
    obtain ⟨k, T, bb, gk, ck, gv, cv, hk, rfl, rfl, rfl, rfl, hne, hch, hok, hov, hbel⟩ := hrel
    by_cases hlt : k < n
    · obtain ⟨nd, hnd⟩ : ∃ nd, ns[k]? = some nd := ⟨ns[k]'(by rw [HL.out]; omega), by simp⟩
      have hkl : k < ns.length := by rw [HL.out]; exact hlt
      have hdr : ns.drop k = nd :: ns.drop (k + 1) := by
        rw [List.drop_eq_getElem_cons hkl]
        congr 1
        exact Option.some.inj ((List.getElem?_eq_getElem hkl).symm.trans hnd)
      have HTK := Lib.hid (show ns.take (k + 1) = ns.take k ++ [nd] by rw [List.take_add_one, hnd]; rfl)
      have hcc := hch.out
      rw [hdr] at hcc
      obtain ⟨lb, body, hv, ⟨gb, ib, sb, fv, s1, s2, s3, s4, b1, b2, b3, b4, b5⟩, hcn⟩ := hcc
      injection hv with e1 e2
      injection e2 with e2
      injection e2 with e2
      injection e2 with e2
      subst e1 e2
      obtain ⟨T', bb', rfl⟩ := chain_iface hcn
      have HCN := Lib.hid hcn
      have H1 := Lib.hid b1
      have H2 := Lib.hid b2
      have H3 := Lib.hid b3
      have H4 := Lib.hid b4
      have K20 := Lib.hid (good20l wr bb gb ib nd.var _ fv (b1.under hbel.out) (b2.under hbel.out))
      unfold locV at K20
      clear hdr hcn b1 b2 b3 b4 b5 hch hmk hnd
      go_wp2_with fail
      refine K20.out.mono ?_
      rintro e w1 ⟨rfl, hb1⟩
      have B1 := hbel.out.trans (hb1.mono hbel.out.size)
      obtain ⟨y0, y1, y2, _⟩ := loc_cells _ _ _ (H1.out.under B1)
      have K26 := Lib.hid (extr26 w1 S gb ib sb nd.path nd.var (.slice none 0 0) none (H2.out.under B1) (H3.out.under B1) (H4.out.under B1) rfl (.inl rfl))
      have F01 := Lib.hid (Fr.of_below hb1 (fun _ => False))
      have HB1 := Lib.hid B1
      clear hb1 B1 K20
      go_wp2_with fail
      refine K26.out.mono ?_
      rintro e w2 ⟨R, cR, restR, g, cg, rfl, hNR, hBR, _, _, _, hb2⟩
      have B2 := HB1.out.trans (hb2.mono HB1.out.size)
      have hBR0 : Blk w2 R 55 (cellsI [mkI g cg ib nd.path nd.var] ++ restR).toArray := hBR
      have x0 := rowI_at hBR0 (k := 0) rfl 0 (by omega)
      have x1 := rowI_at hBR0 (k := 0) rfl 1 (by omega)
      have x2 := rowI_at hBR0 (k := 0) rfl 2 (by omega)
      have x3 := rowI_at hBR0 (k := 0) rfl 3 (by omega)
      have x4 := rowI_at hBR0 (k := 0) rfl 4 (by omega)
      have x5 := rowI_at hBR0 (k := 0) rfl 5 (by omega)
      have x6 := rowI_at hBR0 (k := 0) rfl 6 (by omega)
      have x7 := rowI_at hBR0 (k := 0) rfl 7 (by omega)
      have x8 := rowI_at hBR0 (k := 0) rfl 8 (by omega)
      have x9 := rowI_at hBR0 (k := 0) rfl 9 (by omega)
      have x10 := rowI_at hBR0 (k := 0) rfl 10 (by omega)
      have x11 := rowI_at hBR0 (k := 0) rfl 11 (by omega)
      have x12 := rowI_at hBR0 (k := 0) rfl 12 (by omega)
      have x13 := rowI_at hBR0 (k := 0) rfl 13 (by omega)
      simp only [mkI, IE.cells, bvOf, List.getElem?_cons_zero, List.getElem?_cons_succ, Nat.zero_mul, Nat.zero_add] at x0 x1 x2 x3 x4 x5 x6 x7 x8 x9 x10 x11 x12 x13
      have K17 := Lib.hid (key17 w2 g cg ib nd.path nd.var)
      simp only [mkI, IE.cells, bvOf] at K17
      have hRl := hBR.lt
      have F02 := Lib.hid (F01.out.trans (Fr.of_below hb2 (fun _ => False)))
      have HB2 := Lib.hid B2
      clear hb2 B2 K26 hNR hBR hBR0 y0 y1 y2 F01
      go_wp2_with fail
      refine K17.out.mono ?_
      rintro e w3 ⟨rfl, hb3⟩
      have HB3 := Lib.hid (HB2.out.trans (hb3.mono HB2.out.size))
      have F03 := Lib.hid (F02.out.trans (Fr.of_below hb3 (fun _ => False)))
      clear hb3 F02 HB2 K17 x0 x1 x2 x3 x4 x5 x6 x7 x8 x9 x10 x11 x12 x13 hRl
      go_wp2_with (first | (with_reducible show wpList _ _ _ (⟨some 51, _, _, _, _, _⟩ :: _) _ _; refine of_hid ?_) | fail)
      refine Lib.hid ?_
      have F04 := Lib.hid (F03.out.alloc (.cells #[.string nd.path] 9))
      have HB4 := Lib.hid (HB3.out.alloc HB3.out.size (.cells #[.string nd.path] 9))
      have ok4 := own_fr hok.out F04.out (fun _ _ h => h)
      have ov4 := own_fr hov.out F04.out (fun _ _ h => h)
      refine wpList_append_lies _ (o := ⟨some 51, _, _, _, _, _⟩) rfl (.tmp 45) (.tmp 50) 22 rfl w.heap.size 9 i0 _ 1 16 Tryf.underlying22 HI.out HZ0.out HZ1.out HZ2.out (by simp [Value.cells]) (by omega) (.slice (some ⟨gk, 0, none⟩) k ck) k _ rfl ok4 _ 1 1 [.string nd.path] rfl rfl (new_cellsN _ _ _ _ (by simp)) (by intro u hu; simp only [List.mem_singleton] at hu; subst hu; rfl) (by omega) (by unfold maxLen; omega) (by omega) (by have := HB4.out.size; exact this) _ rfl ?_
      intro gk' ck' w5 hown hgrow hw2 hlt2
      have hgk := own_ge ok4
      have hgv := own_ge ov4
      have F45 := Fr.of_grown hgrow
      have B5 := Fr.below HB4.out F45 HB4.out.size (fun b hb => by have : b = gk := Option.some.inj hb; omega)
      have OV5 := Lib.hid (own_fr ov4 F45 (fun q hq hx => hne.out (by have h1 : gv = q := Option.some.inj hq; have h2 : q = gk := Option.some.inj hx; omega)))
      have OK5 := Lib.hid hown
      have NE5 := Lib.hid (show gk' ≠ gv by
        rcases hw2 with h | h
        · have h1 : gk = gk' := Option.some.inj h
          have := hne.out
          omega
        · omega)
      have HB5 := Lib.hid B5
      obtain ⟨y0, y1, y2, _⟩ := loc_cells _ _ _ (H1.out.under B5)
      obtain ⟨z0, z1, z2, z3, z4, _⟩ := bind_cells _ _ (H2.out.under B5)
      clear ok4 ov4 hown hgrow hw2 hlt2 hgk hgv F45 B5 F03 F04 HB3 HB4 hok hov
      go_wp2_with (first | (with_reducible show wpList _ _ _ (⟨some 61, _, _, _, _, _⟩ :: _) _ _; refine of_hid ?_) | fail)
      refine Lib.hid ?_
      have F56 := (Fr.refl w5 (fun _ => False)).alloc (.cells #[.string nd.var] 9)
      have HB6 := Lib.hid (HB5.out.alloc HB5.out.size (.cells #[.string nd.var] 9))
      have ok6 := own_fr OK5.out F56 (fun _ _ h => h)
      have ov6 := own_fr OV5.out F56 (fun _ _ h => h)
      refine wpList_append_lies _ (o := ⟨some 61, _, _, _, _, _⟩) rfl (.tmp 52) (.tmp 60) 22 rfl w.heap.size 9 i0 _ 1 16 Tryf.underlying22 HI.out HZ0.out HZ1.out HZ2.out (by simp [Value.cells]) (by omega) (.slice (some ⟨gv, 0, none⟩) k cv) k _ rfl ov6 _ 1 1 [.string nd.var] rfl rfl (new_cellsN _ _ _ _ (by simp)) (by intro u hu; simp only [List.mem_singleton] at hu; subst hu; rfl) (by omega) (by unfold maxLen; omega) (by omega) (by have := HB6.out.size; exact this) _ rfl ?_
      intro gv' cv' w7 hown hgrow hw2 hlt2
      have hgk := own_ge ok6
      have hgv := own_ge ov6
      have F67 := Fr.of_grown hgrow
      have B7 := Fr.below HB6.out F67 HB6.out.size (fun b hb => by have : b = gv := Option.some.inj hb; omega)
      have OK7 := Lib.hid (own_fr ok6 F67 (fun q hq hx => NE5.out (by have h1 : gk' = q := Option.some.inj hq; have h2 : q = gv := Option.some.inj hx; omega)))
      have OV7 := Lib.hid hown
      have NE7 := Lib.hid (show gk' ≠ gv' by
        rcases hw2 with h | h
        · have h1 : gv = gv' := Option.some.inj h
          have := NE5.out
          omega
        · omega)
      have HB7 := Lib.hid B7
      obtain ⟨y0, y1, y2, _⟩ := loc_cells _ _ _ (H1.out.under B7)
      clear ok6 ov6 hown hgrow hw2 hlt2 hgk hgv F67 B7 F56 HB6 HB5 OK5 OV5 z0 z1 z2 z3 z4
      go_wp2_with fail
      go_roundw
      case measure => simp [intOf]; omega
      case rel =>
        exact ⟨k + 1, T', bb', gk', ck', gv', cv', by omega, by go_num, rfl, rfl, rfl, NE7, HCN, Lib.hid (by rw [HTK.out, List.map_append]; exact OK7.out), Lib.hid (by rw [HTK.out, List.map_append]; exact OV7.out), HB7⟩
    · obtain rfl : k = n := by omega
      have h1 := hch.out
      rw [List.drop_of_length_le (by rw [HL.out]; exact Nat.le_refl _)] at h1
      injection h1 with e1 e2
      injection e2 with e2
      injection e2 with e2
      injection e2 with e2
      subst e1 e2
      go_wp2_with fail
      refine bodyPost_ret (v := .tuple #[.slice (some ⟨gk, 0, none⟩) k ck, .slice (some ⟨gv, 0, none⟩) k cv, .bool true]) (by simp [results, Tryf.results14, go_sem]) rfl ⟨gk, ck, gv, cv, rfl, ?_, ?_, hbel.out⟩
      · have := own_rd hok.out (Nat.le_refl _)
        rwa [List.take_of_length_le (by rw [HL.out]; exact Nat.le_refl _)] at this
      · have := own_rd hov.out (Nat.le_refl _)
        rwa [List.take_of_length_le (by rw [HL.out]; exact Nat.le_refl _)] at this
end Go.Proofs.YtljfgplccnaboaaFmt
