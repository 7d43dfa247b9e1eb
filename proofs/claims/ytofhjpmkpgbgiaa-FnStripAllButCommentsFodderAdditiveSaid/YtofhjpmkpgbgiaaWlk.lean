/- zzWalk: what the pass remembered answers the source. -/
import Derived.Test.YtofhjpmkpgbgiaaVis
import Derived.Test.YtofhjpmkpgbgiaaEqu
namespace Go.Proofs.Ytofhjpmkpgbgiaa
open Go.RowKit
set_option linter.unusedVariables false

theorem keep_at (pre post es : List LE) (k : Nat) (e : LE) (he : es[k]? = some e) (q : Nat) (r : LE) (hr : (keepE e)[q]? = some r) : (pre ++ keep es ++ post)[pre.length + (keep (es.take k)).length + q]? = some r := by
  have hl := (List.getElem?_eq_some_iff.1 he).1
  have hq := (List.getElem?_eq_some_iff.1 hr).1
  have h1 : keep es = keep (es.take k) ++ (keepE e ++ keep (es.drop (k + 1))) := by
    have h2 : es.drop k = e :: es.drop (k + 1) := by
      rw [List.drop_eq_getElem_cons hl]
      congr 1
      exact (List.getElem?_eq_some_iff.1 he).2
    have h3 : keep (e :: es.drop (k + 1)) = keepE e ++ keep (es.drop (k + 1)) := rfl
    rw [← h3, ← h2, ← keep_append, List.take_append_drop]
  rw [h1, List.append_assoc, List.append_assoc, List.getElem?_append_right (by omega), List.getElem?_append_right (by omega), List.append_assoc, List.getElem?_append_left (by omega)]
  rw [← hr]
  congr 1
  omega
theorem keep_len (es : List LE) (k : Nat) (e : LE) (he : es[k]? = some e) : (keep (es.take (k + 1))).length = (keep (es.take k)).length + (keepE e).length := by rw [keep_succ es k e he, List.length_append]

def Walked (w : World) (j : Nat) (e : Ending) (w' : World) : Prop := e = .returned (.tuple #[.int .i64 j, .bool true]) ∧ Below w.heap.size w w'

set_option maxRecDepth 100000 in
set_option maxHeartbeats 6400000 in
theorem walk_any (w : World) (vs vg : Value) (fs fg : Option (List LE)) (pre post : List LE) (hs : FodV w (Old w) vs fs) (hg : FodV w (Old w) vg fg) (hgs : fg.getD [] = pre ++ keep (fs.getD []) ++ post) :
    Calls Try.prog 23 #[vs, vg, .int .i64 pre.length] w (Walked w (pre.length + (keep (fs.getD [])).length)) := by
  obtain ⟨a, cap, rfl, hle, hfod, _⟩ := hs.open
  obtain ⟨a2, cap2, rfl, hle2, hfod2, _⟩ := hg.open
  unfold Walked
  generalize fs.getD [] = es at *
  generalize fg.getD [] = gs at *
  clear hs hg
  generalize hn : es.length = n at *
  generalize hm : gs.length = m at *
  have HN := Lib.hid hn
  have HM := Lib.hid hm
  have HF := Lib.hid hfod
  have HG := Lib.hid hfod2
  have HE := Lib.hid hgs
  have hpm : pre.length + (keep es).length ≤ m := by rw [← hm, hgs, List.length_append, List.length_append]; omega
  obtain ⟨pl, hpl⟩ : ∃ pl, pl = pre.length := ⟨_, rfl⟩
  have HPL := Lib.hid hpl
  rw [← hpl] at hpm ⊢
  clear hn hm hfod hfod2 hgs hpl
  go_enter Try.func23, Try.ntmps23
  go_wp2_with fail
  go_loopw [2, 8] (fun j i wr => ∃ k : Nat, k ≤ n ∧ j = .int .i64 ((pl + (keep (es.take k)).length : Nat) : Int) ∧ i = .int .i64 k ∧ Hid (Below w.heap.size w wr)) (fun _ i _ => n - (intOf i).toNat)
  case atStart => exact ⟨0, Nat.zero_le _, by simp [keep], rfl, Lib.hid (Below.refl _ _)⟩
  case round =>
    obtain ⟨k, hk, rfl, rfl, hbel⟩ := hrel
    by_cases hlt : k < n
    · obtain ⟨e, he⟩ : ∃ e, es[k]? = some e := ⟨es[k]'(by rw [HN.out]; exact hlt), by simp⟩
      have hag : Agree (Old w) w wr := Agree.of_below hbel.out fun b h => h
      have hsub : ∀ b, Old w b → Old wr b := fun b h => Nat.lt_of_lt_of_le h hbel.out.size
      obtain ⟨b, off, com, hx, hb, hcm, x0, x1, x2, x3⟩ := (HF.out.keep hag).at he
      subst hx
      have hbw : b < wr.heap.size := hsub b hb
      obtain ⟨ca, cl, cc, rfl⟩ := hcm.is_slice
      have hkl := keep_len es k e he
      have hka := fun q r hr => (congrArg (fun l : List LE => l[pre.length + (keep (es.take k)).length + q]?) HE.out).trans (keep_at pre post es k e he q r hr)
      rw [← HPL.out] at hka
      by_cases hk2 : e.kind = 2
      · have hat := hka 0 ⟨2, 0, 0, e.com⟩ (by simp [keepE, hk2])
        have hkl2 : (keep (es.take (k + 1))).length = (keep (es.take k)).length + 1 := by rw [hkl]; simp [keepE, hk2]
        have HKL := Lib.hid hkl2
        generalize hj : pl + (keep (es.take k)).length = j at *
        have HJ := Lib.hid hj
        (try simp only [Nat.add_zero] at hat)
        obtain ⟨b2, off2, com2, hx2, hb2, hcm2, y0, y1, y2, y3⟩ := (HG.out.keep hag).at hat
        subst hx2
        have hb2w : b2 < wr.heap.size := hsub b2 hb2
        have hjm : j < m := by rw [← HM.out]; exact (List.getElem?_eq_some_iff.1 hat).1
        obtain ⟨da, dl, dc, rfl⟩ := hcm2.is_slice
        have KE : ∀ o1 o2, Calls Try.prog 29 #[.slice da dl dc, .slice ca cl cc] ((wr.alloc o1).alloc o2) (Yes ((wr.alloc o1).alloc o2)) := fun o1 o2 => by
          have hag2 : Agree (Old wr) wr ((wr.alloc o1).alloc o2) := (Agree.alloc _ wr o1 fun b h => h).trans (Agree.alloc _ _ o2 fun b (h : b < wr.heap.size) => by simp; omega)
          have hsub2 : ∀ b, Old wr b → Old ((wr.alloc o1).alloc o2) b := fun b (h : b < wr.heap.size) => by show b < _; simp; omega
          exact strs_eq _ _ _ e.com (((hcm2.sub hsub).keep hag2).sub hsub2) (((hcm.sub hsub).keep hag2).sub hsub2)
        have KK := Lib.hid KE
        clear KE hat hcm hcm2 he hag hsub hka hkl hkl2 hj
        obtain ⟨kd, bl, ind, cm⟩ := e
        simp only at x0 x1 x2 x3 y0 y1 y2 y3 hk2
        subst hk2
        go_wp2_with fail
        refine (KK.out _ _).mono ?_
        rintro e w2 ⟨rfl, hb2'⟩
        have HB := Lib.hid (((hbel.out.alloc hbel.out.size _).alloc (by have := hbel.out.size; simp; omega) _).trans (hb2'.mono (by have := hbel.out.size; simp; omega)))
        clear hb2' KK
        go_wp2_with fail
        go_roundw
        case rel => exact ⟨k + 1, by omega, by rw [HKL.out, ← Nat.add_assoc, HJ.out]; go_num, by go_num, HB⟩
        case measure => simp [intOf]; omega
      · by_cases hk1 : e.kind = 1
        · have hat := hka 0 e (by simp [keepE, hk1])
          have hat1 := hka 1 ⟨0, 0, 0, none⟩ (by simp [keepE, hk1])
          have hkl2 : (keep (es.take (k + 1))).length = (keep (es.take k)).length + 2 := by rw [hkl]; simp [keepE, hk1]
          have HKL := Lib.hid hkl2
          generalize hj : pl + (keep (es.take k)).length = j at *
          have HJ := Lib.hid hj
          (try simp only [Nat.add_zero] at hat)
          obtain ⟨b2, off2, com2, hx2, hb2, hcm2, y0, y1, y2, y3⟩ := (HG.out.keep hag).at hat
          subst hx2
          obtain ⟨b3, off3, com3, hx3, hb3, hcm3, z0, z1, z2, z3⟩ := (HG.out.keep hag).at hat1
          obtain ⟨rfl, rfl⟩ : b2 = b3 ∧ off2 = off3 := by have := Option.some.inj hx3; simp at this; exact this
          obtain rfl : com3 = .slice none 0 0 := hcm3
          have hb2w : b2 < wr.heap.size := hsub b2 hb2
          have hjm : j + 1 < m := by rw [← HM.out]; exact (List.getElem?_eq_some_iff.1 hat1).1
          have hjm0 : j < m := by omega
          obtain ⟨da, dl, dc, rfl⟩ := hcm2.is_slice
          have KE : ∀ o1, Calls Try.prog 27 #[.agg #[.slice da dl dc, .int .i64 e.kind, .int .i64 e.blanks, .int .i64 e.indent], .agg #[.slice ca cl cc, .int .i64 e.kind, .int .i64 e.blanks, .int .i64 e.indent]] (wr.alloc o1).drew (Yes (wr.alloc o1).drew) := fun o1 => by
            have hag2 : Agree (Old wr) wr (wr.alloc o1).drew := (Agree.alloc _ wr o1 fun b h => h).trans (Agree.drew _ _)
            have hsub2 : ∀ b, Old wr b → Old (wr.alloc o1).drew b := fun b (h : b < wr.heap.size) => by show b < (wr.alloc o1).heap.size; simp; omega
            exact elem_eq _ _ _ _ _ _ e.com (((hcm2.sub hsub).keep hag2).sub hsub2) (((hcm.sub hsub).keep hag2).sub hsub2)
          have KK := Lib.hid KE
          have n4 : ∀ W, (binOp .neq 48 (.slice none 0 0) (.slice none 0 0)).run Try.prog W = .ok (.bool false) W := fun W => by kernel_rfl
          clear KE hat hat1 hcm hcm2 he hag hsub hka hkl hkl2 hj hx3
          obtain ⟨kd, bl, ind, cm⟩ := e
          simp only at x0 x1 x2 x3 y0 y1 y2 y3 z0 z1 z2 z3 hk1 KK
          subst hk1
          go_wp2_with fail
          refine wp_region_tail 5 (by kernel_rfl) (by kernel_rfl) ?_
          simp only [List.take_succ_cons, List.take_zero, List.drop_succ_cons, List.drop_zero]
          repeat still_step
          refine wpStill_nil ?_
          go_wp2_with fail
          refine (KK.out _).mono ?_
          rintro e w2 ⟨rfl, hb2'⟩
          have HB := Lib.hid ((hbel.out.alloc hbel.out.size _).drew.trans (hb2'.mono (by have := hbel.out.size; show _ ≤ (wr.alloc _).heap.size; simp; omega)))
          have hl2 : b2 < w2.heap.size := by have := hb2'.size; have h3 : wr.heap.size + 1 ≤ w2.heap.size := by simpa using this
                                             omega
          have q0 := (hb2'.cell (p := ⟨b2, off2 + (j + 1) * 4, none⟩) (by show b2 < (wr.alloc _).heap.size; simp; omega)).trans ((((Below.refl wr.heap.size wr).alloc (Nat.le_refl _) _).cell (p := ⟨b2, off2 + (j + 1) * 4, none⟩) hb2w).trans z0)
          have q1 := (hb2'.cell (p := ⟨b2, off2 + (j + 1) * 4 + 1, none⟩) (by show b2 < (wr.alloc _).heap.size; simp; omega)).trans ((((Below.refl wr.heap.size wr).alloc (Nat.le_refl _) _).cell (p := ⟨b2, off2 + (j + 1) * 4 + 1, none⟩) hb2w).trans z1)
          have q2 := (hb2'.cell (p := ⟨b2, off2 + (j + 1) * 4 + 2, none⟩) (by show b2 < (wr.alloc _).heap.size; simp; omega)).trans ((((Below.refl wr.heap.size wr).alloc (Nat.le_refl _) _).cell (p := ⟨b2, off2 + (j + 1) * 4 + 2, none⟩) hb2w).trans z2)
          have q3 := (hb2'.cell (p := ⟨b2, off2 + (j + 1) * 4 + 3, none⟩) (by show b2 < (wr.alloc _).heap.size; simp; omega)).trans ((((Below.refl wr.heap.size wr).alloc (Nat.le_refl _) _).cell (p := ⟨b2, off2 + (j + 1) * 4 + 3, none⟩) hb2w).trans z3)
          clear hb2' KK x0 x1 x2 x3 y0 y1 y2 y3 z0 z1 z2 z3
          go_wp2
          go_roundw
          case rel => exact ⟨k + 1, by omega, by rw [HKL.out, ← Nat.add_assoc, HJ.out]; go_num, by go_num, Lib.hid (HB.out.alloc HB.out.size _)⟩
          case measure => simp [intOf]; omega
        · have hkl2 : (keep (es.take (k + 1))).length = (keep (es.take k)).length := by rw [hkl]; simp [keepE, hk2, hk1]
          have HKL := Lib.hid hkl2
          clear hka hkl hkl2 he hcm hag hsub
          generalize hj : pl + (keep (es.take k)).length = j at *
          have HJ := Lib.hid hj
          clear hj
          obtain ⟨kd, bl, ind, cm⟩ := e
          simp only at x0 x1 x2 x3 hk2 hk1
          go_wp2
          go_roundw
          case rel => exact ⟨k + 1, by omega, by rw [HKL.out, HJ.out], by go_num, Lib.hid (hbel.out.alloc hbel.out.size _)⟩
          case measure => simp [intOf]; omega
    · obtain rfl : k = n := by omega
      have hfull : es.take k = es := List.take_of_length_le (by rw [HN.out]; exact Nat.le_refl _)
      rw [hfull]
      go_wp2_with fail
      go_ret2
      exact ⟨rfl, hbel.out⟩
end Go.Proofs.Ytofhjpmkpgbgiaa
