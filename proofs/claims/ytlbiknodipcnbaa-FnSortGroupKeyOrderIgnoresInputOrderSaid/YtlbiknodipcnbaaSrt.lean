/- sortPairs: the pairs in order. -/
import Derived.Test.YtlbiknodipcnbaaPai
import Derived.Laws.CopyOwn
namespace Go.Proofs.Ytlbiknodipcnbaa
open Go.RowKit
set_option linter.unusedVariables false

theorem run_copyK {P : Program} (w : World) (dT sT ty elem : TypeId) (g o dLen dCap k n : Nat) (a : Addr) (sLen sCap : Nat) (cur : Array Value) (t : TypeId) (cs : List Value)
    (hu : P.underlying dT = some (.slice elem)) (hs : (P.info? elem).map (·.size) = some k)
    (hg : w.heap[g]? = some (.cells cur t (0, 0))) (hm : Nat.min sLen dLen = n) (hn : cs.length = n * k)
    (hsrc : ∀ j v, cs[j]? = some v → w.cell? (a.add j) = some v) (hfit : o + cs.length ≤ cur.size) (h1 : ∀ v ∈ cs, v.oneCell' = true) :
    (Builtin.copy_ #[dT, sT] ty #[.slice (some ⟨g, o, none⟩) dLen dCap, .slice (some a) sLen sCap]).run P w =
      .ok (goInt n) (w.setRow g (cur.toList.take o ++ cs ++ cur.toList.drop (o + cs.length)).toArray) := by
  have hl := run_loadCells_list (P := P) w a cs hsrc
  have hst := run_storeCells_at P g o t cs 0 cur w hg (by simpa using hfit) h1
  cases hq : P.info? elem with
  | none => simp [hq] at hs
  | some i =>
    have hi : i.size = k := by simpa [hq] using hs
    simp [Builtin.copy_, run_underlying hu, Builtin.lenOf, Builtin.firstCells, sizeOf, typeInfo, hq, hi, hm, ← hn, hl, hst]
theorem run_copy0 {P : Program} (w : World) (dT sT ty elem : TypeId) (k : Nat) (d a : Option Addr) (dLen dCap sLen sCap : Nat) (hu : P.underlying dT = some (.slice elem)) (hs : (P.info? elem).map (·.size) = some k) (hn : Nat.min sLen dLen = 0) :
    (Builtin.copy_ #[dT, sT] ty #[.slice d dLen dCap, .slice a sLen sCap]).run P w = .ok (goInt 0) w := by
  cases hq : P.info? elem with
  | none => simp [hq] at hs
  | some i =>
    have hl : ∀ (x : Addr), (loadCells x 0).run P w = .ok #[] w := fun x => by simpa using run_loadCells_list (P := P) w x [] (by simp)
    cases d <;> cases a <;> simp [Builtin.copy_, run_underlying hu, Builtin.lenOf, Builtin.firstCells, sizeOf, typeInfo, hq, hn, storeCells, hl]

def zP : List Value := [.string ⟨#[]⟩, .string ⟨#[]⟩]
theorem infP : (Try.prog.info? 28).map (fun i => (i.zero, i.size, i.bytes)) = some (some (.agg #[.string ⟨#[]⟩, .string ⟨#[]⟩]), 2, 32) := by kernel_rfl
theorem sizP : (Try.prog.info? 28).map (·.size) = some 2 := by kernel_rfl
theorem infP_parts : ∃ i0, Try.prog.info? 28 = some i0 ∧ i0.zero = some (.agg #[.string ⟨#[]⟩, .string ⟨#[]⟩]) ∧ i0.size = 2 ∧ i0.bytes = 32 := by
  have h := infP
  cases hq : Try.prog.info? 28 with
  | none => rw [hq] at h; cases h
  | some i0 =>
    rw [hq] at h
    simp only [Option.map_some, Option.some.injEq, Prod.mk.injEq] at h
    exact ⟨i0, rfl, h.1, h.2.1, h.2.2⟩
def SortedR (w : World) (n : Nat) (ps : List PE) (e : Ending) (w' : World) : Prop :=
  ∃ R g, e = .returned (.slice (some ⟨g, 0, none⟩) n n) ∧ Blk w' g 28 (cellsP R).toArray ∧ R.Perm ps ∧ R.Pairwise (fun p q => leP p q = true) ∧ w.heap.size ≤ g ∧ Below w.heap.size w w'

set_option maxRecDepth 100000 in
set_option maxHeartbeats 1600000 in
theorem sort0 (w : World) (a : Option Addr) (c : Nat) : Calls Try.prog 10 #[.slice a 0 c] w (SortedR w 0 []) := by
  obtain ⟨i0, hi, hz0, hz1, hz2⟩ := infP_parts
  have hmk := run_make_n (P := Try.prog) 22 28 i0 _ Try.underlying22 hi hz0 .i64 .i64 0 0 (Nat.le_refl _) (by omega) (by omega) w
  have hm0 : madeCells (Value.agg #[.string ⟨#[]⟩, .string ⟨#[]⟩]).cells (0 * i0.size) = #[] := by simp [madeCells]
  rw [hm0] at hmk
  have hmk2 : (Instr.makeSlice 22 (.int .i64 0) (.int .i64 0)).run Try.prog w = .ok (.slice (some ⟨w.heap.size, 0, none⟩) 0 0) (w.alloc (.cells #[] 28)) := hmk
  clear hmk
  have hcp := fun W => run_copy0 (P := Try.prog) W 22 22 3 28 2 (some ⟨w.heap.size, 0, none⟩) a 0 0 0 c Try.underlying22 sizP rfl
  have HB := Lib.hid (Blk.new w 28 #[])
  have HL := Lib.hid ((Below.refl w.heap.size w).alloc (Nat.le_refl _) (.cells #[] 28))
  clear hi hz0 hz1 hz2 hm0
  go_enter Try.func10, Try.ntmps10
  go_wp2
  go_ret
  exact ⟨[], w.heap.size, rfl, HB.out, List.Perm.refl _, List.Pairwise.nil, Nat.le_refl _, HL.out⟩

set_option maxRecDepth 100000 in
set_option maxHeartbeats 1600000 in
theorem sort1 (w : World) (a : Option Addr) (c : Nat) (p : PE) (h : IsPs w a 1 c [p]) : Calls Try.prog 10 #[.slice a 1 c] w (SortedR w 1 [p]) := by
  obtain ⟨b, off, rfl, hb, x0, x1⟩ := IsPs.at h.2.2.2.2.2 (k := 0) (z := p) rfl
  obtain ⟨i0, hi, hz0, hz1, hz2⟩ := infP_parts
  have hmk := run_make_n (P := Try.prog) 22 28 i0 _ Try.underlying22 hi hz0 .i64 .i64 1 1 (Nat.le_refl _) (by omega) (by omega) w
  have hm0 := made_flat PE.cells 2 (fun _ => rfl) (by decide) ⟨⟨#[]⟩, ⟨#[]⟩⟩ 1
  rw [hz1, show (Value.agg #[.string ⟨#[]⟩, .string ⟨#[]⟩]).cells = (PE.cells ⟨⟨#[]⟩, ⟨#[]⟩⟩).toArray by simp [Value.cells, PE.cells], hm0] at hmk
  have hmk2 : (Instr.makeSlice 22 (.int .i64 1) (.int .i64 1)).run Try.prog w = .ok (.slice (some ⟨w.heap.size, 0, none⟩) 1 1) (w.alloc (.cells #[.string ⟨#[]⟩, .string ⟨#[]⟩] 28)) := hmk
  clear hmk hm0
  have hal := (Below.refl w.heap.size w).alloc (Nat.le_refl _) (.cells #[.string ⟨#[]⟩, .string ⟨#[]⟩] 28)
  have hcp := run_copyK (P := Try.prog) (w.alloc (.cells #[.string ⟨#[]⟩, .string ⟨#[]⟩] 28)) 22 22 3 28 w.heap.size 0 1 1 2 1 ⟨b, off, none⟩ 1 c #[.string ⟨#[]⟩, .string ⟨#[]⟩] 28 p.cells Try.underlying22 sizP (Blk.new w 28 _) rfl rfl (fun j v hv => by
    rw [Go.WideShapes.add_plain]
    rcases j with _ | _ | j
    · simp [PE.cells] at hv; subst hv; exact (hal.cell (p := ⟨b, off + 0, none⟩) hb).trans (by simpa using x0)
    · simp [PE.cells] at hv; subst hv; exact (hal.cell (p := ⟨b, off + (0 + 1), none⟩) hb).trans (by simpa using x1)
    · simp [PE.cells] at hv) (by simp [PE.cells]) (fun v hv => by simp [PE.cells] at hv; rcases hv with rfl | rfl <;> rfl)
  have he : ((#[.string ⟨#[]⟩, .string ⟨#[]⟩] : Array Value).toList.take 0 ++ p.cells ++ (#[.string ⟨#[]⟩, .string ⟨#[]⟩] : Array Value).toList.drop (0 + p.cells.length)).toArray = (cellsP [p]).toArray := by simp [PE.cells, cellsP]
  rw [he] at hcp
  have HB := Lib.hid (show Blk ((w.alloc (.cells #[.string ⟨#[]⟩, .string ⟨#[]⟩] 28)).setRow w.heap.size (cellsP [p]).toArray) w.heap.size 28 (cellsP [p]).toArray from setRow_heap _ _ _ _ _ _ (Blk.new w 28 _))
  have HL := Lib.hid (below_setRow hal (Nat.le_refl _) (cellsP [p]).toArray)
  generalize hCP : (cellsP [p]).toArray = CP at *
  have HC := Lib.hid hCP
  clear hCP
  clear hi hz0 hz1 hz2 he hal x0 x1 h
  go_enter Try.func10, Try.ntmps10
  go_wp2
  go_ret
  exact ⟨[p], w.heap.size, rfl, by rw [HC.out]; exact HB.out, List.Perm.refl _, List.pairwise_singleton _ _, Nat.le_refl _, HL.out⟩
theorem cellsP_app (M : List PE) (p : PE) : cellsP (M ++ [p]) = cellsP M ++ p.cells := by simp [cellsP]
theorem mrg_cons (x y : PE) (xs ys : List PE) : List.merge (x :: xs) (y :: ys) leP = if leP x y = true then x :: List.merge xs (y :: ys) leP else y :: List.merge (x :: xs) ys leP := by
  rw [List.merge]
theorem mrg_left {L R M : List PE} {i j : Nat} {p q : PE} (hp : L[i]? = some p) (hq : R[j]? = some q) (hlt : ltP q p = false) (h : M ++ List.merge (L.drop i) (R.drop j) leP = List.merge L R leP) : (M ++ [p]) ++ List.merge (L.drop (i + 1)) (R.drop j) leP = List.merge L R leP := by
  obtain ⟨hi, e1⟩ := List.getElem?_eq_some_iff.1 hp
  obtain ⟨hj, e2⟩ := List.getElem?_eq_some_iff.1 hq
  rw [← h, List.drop_eq_getElem_cons hi, List.drop_eq_getElem_cons hj, e1, e2, mrg_cons, if_pos (by unfold leP; rw [hlt]; rfl), List.append_assoc]
  rfl
theorem mrg_right {L R M : List PE} {i j : Nat} {p q : PE} (hp : L[i]? = some p) (hq : R[j]? = some q) (hlt : ltP q p = true) (h : M ++ List.merge (L.drop i) (R.drop j) leP = List.merge L R leP) : (M ++ [q]) ++ List.merge (L.drop i) (R.drop (j + 1)) leP = List.merge L R leP := by
  obtain ⟨hi, e1⟩ := List.getElem?_eq_some_iff.1 hp
  obtain ⟨hj, e2⟩ := List.getElem?_eq_some_iff.1 hq
  rw [← h, List.drop_eq_getElem_cons hi, List.drop_eq_getElem_cons hj, e1, e2, mrg_cons, if_neg (by unfold leP; rw [hlt]; simp), List.append_assoc]
  rfl
theorem mrg_l0 {L R M : List PE} {i j : Nat} {p : PE} (hp : L[i]? = some p) (hj : R.length ≤ j) (h : M ++ List.merge (L.drop i) (R.drop j) leP = List.merge L R leP) : (M ++ [p]) ++ List.merge (L.drop (i + 1)) (R.drop j) leP = List.merge L R leP := by
  obtain ⟨hi, e1⟩ := List.getElem?_eq_some_iff.1 hp
  rw [← h, List.drop_eq_nil_of_le hj, List.drop_eq_getElem_cons hi, e1]
  simp
theorem mrg_r0 {L R M : List PE} {i j : Nat} {q : PE} (hq : R[j]? = some q) (hi : L.length ≤ i) (h : M ++ List.merge (L.drop i) (R.drop j) leP = List.merge L R leP) : (M ++ [q]) ++ List.merge (L.drop i) (R.drop (j + 1)) leP = List.merge L R leP := by
  obtain ⟨hj, e1⟩ := List.getElem?_eq_some_iff.1 hq
  rw [← h, List.drop_eq_nil_of_le hi, List.drop_eq_getElem_cons hj, e1]
  simp
theorem isPs_take {w : World} {b off n c m : Nat} {ps : List PE} (h : IsPs w (some ⟨b, off, none⟩) n c ps) (hm : m ≤ n) : IsPs w (some ⟨b, off, none⟩) m c (ps.take m) := by
  obtain ⟨h1, h2, h3, h4, h5, h6⟩ := h
  refine ⟨by simp; omega, by omega, h3, (fun h => by cases h), fun z hz => h5 z (List.mem_of_mem_take hz), ?_⟩
  rcases h6 with h6 | ⟨b', o', e, hb, hc⟩
  · left
    have : ps.length = 0 := by have := congrArg List.length h6; rw [cellsP_len, List.length_nil] at this; omega
    rw [List.length_eq_zero_iff.1 this]
    simp [cellsP]
  · right
    refine ⟨b', o', e, hb, fun i u hu => hc i u ?_⟩
    have : cellsP ps = cellsP (ps.take m) ++ cellsP (ps.drop m) := by
      unfold cellsP
      rw [← List.flatMap_append, List.take_append_drop]
    rw [this, List.getElem?_append_left (List.getElem?_eq_some_iff.1 hu).1]
    exact hu
theorem isPs_drop {w : World} {b off n c m : Nat} {ps : List PE} (h : IsPs w (some ⟨b, off, none⟩) n c ps) (hm : m ≤ n) : IsPs w (some ⟨b, off + m * 2, none⟩) (n - m) (c - m) (ps.drop m) := by
  obtain ⟨h1, h2, h3, h4, h5, h6⟩ := h
  refine ⟨by simp; omega, by omega, by omega, (fun h => by cases h), fun z hz => h5 z (List.mem_of_mem_drop hz), ?_⟩
  rcases h6 with h6 | ⟨b', o', e, hb, hc⟩
  · left
    have : ps.length = 0 := by have := congrArg List.length h6; rw [cellsP_len, List.length_nil] at this; omega
    rw [List.length_eq_zero_iff.1 this]
    simp [cellsP]
  · right
    injection e with e
    injection e with e1 e2
    subst e1 e2
    refine ⟨_, _, rfl, hb, fun i u hu => ?_⟩
    have : cellsP ps = cellsP (ps.take m) ++ cellsP (ps.drop m) := by
      unfold cellsP
      rw [← List.flatMap_append, List.take_append_drop]
    rw [Nat.add_assoc]
    refine hc _ u ?_
    rw [this, List.getElem?_append_right (by rw [cellsP_len, List.length_take]; omega), cellsP_len, List.length_take, Nat.min_eq_left (by omega), Nat.add_sub_cancel_left]
    exact hu

set_option maxRecDepth 100000 in
set_option maxHeartbeats 3200000 in
theorem sort_step (n : Nat) (hn : 2 ≤ n) (hn2 : n ≤ 65536) (ih : ∀ k, k < n → ∀ (w : World) (a : Option Addr) (c : Nat) (ps : List PE), IsPs w a k c ps → k ≤ 65536 → Calls Try.prog 10 #[.slice a k c] w (SortedR w k ps))
    (w : World) (a : Option Addr) (c : Nat) (ps : List PE) (h : IsPs w a n c ps) : Calls Try.prog 10 #[.slice a n c] w (SortedR w n ps) := by
  obtain ⟨b, off, rfl⟩ : ∃ b off, a = some ⟨b, off, none⟩ := by
    obtain ⟨b, off, e, _⟩ := h.2.2.2.2.2.pos (by rw [cellsP_len, h.1]; omega)
    exact ⟨b, off, e⟩
  obtain ⟨m, hm⟩ : ∃ m, m = n / 2 := ⟨_, rfl⟩
  have hm1 : 1 ≤ m := by omega
  have hm2 : m < n := by omega
  have hmid : (n : Int) / 2 = (m : Int) := by omega
  have hcn := h.2.1
  clear hm
  have I1 := Lib.hid (ih m hm2 w _ c (ps.take m) (isPs_take h (by omega)) (by omega))
  have I2 := Lib.hid (fun w1 (hb : Below w.heap.size w w1) => ih (n - m) (by omega) w1 _ (c - m) (ps.drop m) (isPs_drop (h.below hb) (by omega)) (by omega))
  obtain ⟨i0, hi, hz0, hz1, hz2⟩ := infP_parts
  have HI := Lib.hid hi
  have HI1 := Lib.hid hz1
  have hmk : ∀ W, (Instr.makeSlice 22 (.int .i64 0) (.int .i64 n)).run Try.prog W = .ok (.slice (some ⟨W.heap.size, 0, none⟩) 0 n) (W.alloc (.cells (madeCells (Value.agg #[.string ⟨#[]⟩, .string ⟨#[]⟩]).cells (n * i0.size)) 28)) := fun W => run_make_n (P := Try.prog) 22 28 i0 _ Try.underlying22 hi hz0 .i64 .i64 0 n (Nat.zero_le _) (by rw [hz2]; omega) (by omega) W
  rw [hz1] at hmk
  generalize hZ : madeCells (Value.agg #[.string ⟨#[]⟩, .string ⟨#[]⟩]).cells (n * 2) = Z at hmk
  have HZ := Lib.hid (show Z.size = n * 2 by rw [← hZ]; simp [size_madeCells])
  have HPS := Lib.hid h.1
  have hcm := h.2.2.1
  unfold maxLen at hcm
  clear hZ hi hz0 hz1 hz2 ih h
  go_enter Try.func10, Try.ntmps10
  go_wp2_with fail
  refine I1.out.mono ?_
  rintro e w1 ⟨L, gl, rfl, hL, hLp, hLs, hgl, hb1⟩
  have B1 := Lib.hid hb1
  have BLL := Lib.hid hL
  have LP := Lib.hid hLp
  have LS := Lib.hid hLs
  have hLl : L.length = m := by rw [hLp.length_eq, List.length_take, HPS.out]; omega
  have HLL := Lib.hid hLl
  have lgl := hL.lt
  clear hL hLp hLs hb1 I1 hLl
  go_wp2_with fail
  refine (I2.out w1 B1.out).mono ?_
  rintro e w2 ⟨R, gr, rfl, hR, hRp, hRs, hgr, hb2⟩
  have B2 := Lib.hid (B1.out.trans (hb2.mono B1.out.size))
  have BLL := Lib.hid (BLL.out.under hb2)
  have BLR := Lib.hid hR
  have RP := Lib.hid hRp
  have RS := Lib.hid hRs
  have hRl : R.length = n - m := by rw [hRp.length_eq, List.length_drop, HPS.out]
  have HRL := Lib.hid hRl
  have lgl := BLL.out.lt
  have lgr := BLR.out.lt
  have lgw := B2.out.size
  clear hR hRp hRs hb2 I2 B1 hRl
  obtain ⟨r, hr⟩ : ∃ r, r = n - m := ⟨_, rfl⟩
  have hnr : n = m + r := by omega
  rw [← hr]
  rw [← hr] at HRL
  have HNR := Lib.hid hnr
  clear hr hnr
  go_wp2_with fail
  go_loopw [8, 9, 10] (fun o i j wr => ∃ (x y : Nat) (M : List PE), x ≤ m ∧ y ≤ r ∧ i = .int .i64 x ∧ j = .int .i64 y ∧ o = .slice (some ⟨w2.heap.size, 0, none⟩) (x + y) n ∧ Hid (wr.ownsRow w2.heap.size 28 2 (.slice (some ⟨w2.heap.size, 0, none⟩) (x + y) n) (x + y) (cellsP M)) ∧ Hid (M ++ List.merge (L.drop x) (R.drop y) leP = List.merge L R leP) ∧ Hid (Below w2.heap.size w2 wr)) (fun _ i j _ => (m + r) - ((intOf i).toNat + (intOf j).toNat))
  case atStart => exact ⟨0, 0, [], Nat.zero_le _, Nat.zero_le _, rfl, rfl, rfl, Lib.hid (own_made HZ.out (by omega)), Lib.hid rfl, Lib.hid ((Below.refl _ _).alloc (Nat.le_refl _) _)⟩
  case round =>
    clear hmk
    obtain ⟨x, y, M, hx, hy, rfl, rfl, rfl, hown, hmr, hbel⟩ := hrel
    by_cases hxy : x < m ∧ y < r
    · obtain ⟨hxm, hyr⟩ := hxy
      obtain ⟨p, hp⟩ : ∃ p, L[x]? = some p := ⟨L[x]'(by rw [HLL.out]; omega), by simp⟩
      have hBp := BLL.out.under hbel.out
      have hp0 := hBp.cell (x * 2)
      have hp1 := hBp.cell (x * 2 + 1)
      rw [List.getElem?_toArray, ← Nat.add_zero (x * 2), cellsP_at L x 0 p hp (by omega), Nat.add_zero] at hp0
      rw [List.getElem?_toArray, cellsP_at L x 1 p hp (by omega)] at hp1
      simp [PE.cells] at hp0 hp1
      have hpl := hBp.lt
      clear hBp
      obtain ⟨q, hq⟩ : ∃ p, R[y]? = some p := ⟨R[y]'(by rw [HRL.out]; omega), by simp⟩
      have hBq := BLR.out.under hbel.out
      have hq0 := hBq.cell (y * 2)
      have hq1 := hBq.cell (y * 2 + 1)
      rw [List.getElem?_toArray, ← Nat.add_zero (y * 2), cellsP_at R y 0 q hq (by omega), Nat.add_zero] at hq0
      rw [List.getElem?_toArray, cellsP_at R y 1 q hq (by omega)] at hq1
      simp [PE.cells] at hq0 hq1
      have hql := hBq.lt
      clear hBq
      have KL := Lib.hid (less17 wr.drew q p)
      have HP := Lib.hid hp
      have HQ := Lib.hid hq
      clear hp hq
      have hbW0 : Hid (gl < wr.heap.size ∧ gr < wr.heap.size) := Lib.hid ⟨hpl, hql⟩
      obtain ⟨lb, hlb⟩ : ∃ lb, lb = ltP q p := ⟨_, rfl⟩
      rw [← hlb] at KL
      have HLB := Lib.hid hlb
      clear hlb
      have hxyn : x + y < n := by have := HNR.out; omega
      go_wp2_with fail
      refine wp_region_tail 8 (by kernel_rfl) (by kernel_rfl) ?_
      simp only [List.take_succ_cons, List.take_zero, List.drop_succ_cons, List.drop_zero]
      repeat still_step
      refine wpStill_nil ?_
      go_wp2_with fail
      refine KL.out.mono ?_
      rintro e W ⟨rfl, hbW⟩
      have HP0 := Lib.hid ((hbW.cell (p := ⟨gl, x * 2, none⟩) hpl).trans hp0)
      have HP1 := Lib.hid ((hbW.cell (p := ⟨gl, x * 2 + 1, none⟩) hpl).trans hp1)
      have HQ0 := Lib.hid ((hbW.cell (p := ⟨gr, y * 2, none⟩) hql).trans hq0)
      have HQ1 := Lib.hid ((hbW.cell (p := ⟨gr, y * 2 + 1, none⟩) hql).trans hq1)
      have hplW := Nat.lt_of_lt_of_le hpl hbW.size
      have hqlW := Nat.lt_of_lt_of_le hql hbW.size
      clear hbW0
      have hown := Lib.hid (own_below (own_drew hown.out) hbW)
      have hbel := Lib.hid (hbel.out.drew.trans (hbW.mono (by have := hbel.out.size; exact this)))
      cases lb
      · have HM := Lib.hid (mrg_left HP.out HQ.out HLB.out.symm hmr.out)
        clear hq0 hq1 hp0 hp1
        have hp0 := HP0.out
        have hp1 := HP1.out
        go_wp2_with (at_builtin; refine wpList_append_fits _ rfl (.tmp 61) (.tmp 66) 22 rfl w2.heap.size 28 i0 2 Try.underlying22 HI.out HI1.out w2.heap.size (x + y) n (cellsP M) rfl (hown.out.alloc _) ⟨W.heap.size, 0, none⟩ 1 1 (PE.cells p) rfl rfl (new_cells _ _ _) (fun u hu => by simp [PE.cells] at hu; rcases hu with rfl | rfl <;> rfl) (by omega) ?_)
        intro w8 hown1 hgrow1
        rw [← cellsP_app] at hown1
        have HO := Lib.hid hown1
        have HB := Lib.hid ((hbel.out.alloc hbel.out.size (.cells #[.string p.k, .string p.v] 28)).grown hgrow1 (by simp; exact Nat.le_succ_of_le hbel.out.size) (by intro q hq; injection hq with hq; omega))
        clear hown1 hgrow1 hown hbel
        go_wp2_with fail
        go_roundw
        case rel => exact ⟨x + 1, y, M ++ [p], by omega, by omega, by go_num, rfl, by rw [show x + 1 + y = x + y + 1 by omega], by rw [show x + 1 + y = x + y + 1 by omega]; exact HO, HM, HB⟩
        case measure => simp [intOf]; omega
      · have HM := Lib.hid (mrg_right HP.out HQ.out HLB.out.symm hmr.out)
        clear hq0 hq1 hp0 hp1
        have hq0 := HQ0.out
        have hq1 := HQ1.out
        go_wp2_with (at_builtin; refine wpList_append_fits _ rfl (.tmp 52) (.tmp 57) 22 rfl w2.heap.size 28 i0 2 Try.underlying22 HI.out HI1.out w2.heap.size (x + y) n (cellsP M) rfl (hown.out.alloc _) ⟨W.heap.size, 0, none⟩ 1 1 (PE.cells q) rfl rfl (new_cells _ _ _) (fun u hu => by simp [PE.cells] at hu; rcases hu with rfl | rfl <;> rfl) (by omega) ?_)
        intro w8 hown1 hgrow1
        rw [← cellsP_app] at hown1
        have HO := Lib.hid hown1
        have HB := Lib.hid ((hbel.out.alloc hbel.out.size (.cells #[.string q.k, .string q.v] 28)).grown hgrow1 (by simp; exact Nat.le_succ_of_le hbel.out.size) (by intro q hq; injection hq with hq; omega))
        clear hown1 hgrow1 hown hbel
        go_wp2_with fail
        go_roundw
        case rel => exact ⟨x, y + 1, M ++ [q], by omega, by omega, rfl, by go_num, rfl, HO, HM, HB⟩
        case measure => simp [intOf]; omega
    · obtain ⟨x0, hx0⟩ : ∃ x0, x0 = x := ⟨_, rfl⟩
      obtain ⟨M0, hM0⟩ : ∃ M0, M0 = M := ⟨_, rfl⟩
      subst hx0 hM0
      have HEX := Lib.hid (show x0 < m → y = r by omega)
      by_cases hxm0 : x0 < m
      · have hyr0 : ¬ y < r := by omega
        go_wp2_with fail
        clear hyr0 hxm0
        have hex := HEX.out
        go_loopw [8, 9] (fun o i wr => ∃ (x : Nat) (M : List PE), x0 ≤ x ∧ x ≤ m ∧ i = .int .i64 x ∧ o = .slice (some ⟨w2.heap.size, 0, none⟩) (x + y) n ∧ Hid (wr.ownsRow w2.heap.size 28 2 (.slice (some ⟨w2.heap.size, 0, none⟩) (x + y) n) (x + y) (cellsP M)) ∧ Hid (M ++ List.merge (L.drop x) (R.drop y) leP = List.merge L R leP) ∧ Hid (Below w2.heap.size w2 wr)) (fun _ i _ => m - (intOf i).toNat)
        case atStart => exact ⟨x0, M0, Nat.le_refl _, hx, rfl, rfl, hown, hmr, hbel⟩
        case round =>
          rename_i wx
          clear hown hmr hbel hex
          obtain ⟨x, M, hx0, hxm, rfl, rfl, hown, hmr, hbel⟩ := hrel
          by_cases hlt : x < m
          · have hyr : y = r := by have := HEX.out; omega
            obtain ⟨p, hp⟩ : ∃ p, L[x]? = some p := ⟨L[x]'(by rw [HLL.out]; omega), by simp⟩
            have hBp := BLL.out.under hbel.out
            have hp0 := hBp.cell (x * 2)
            have hp1 := hBp.cell (x * 2 + 1)
            rw [List.getElem?_toArray, ← Nat.add_zero (x * 2), cellsP_at L x 0 p hp (by omega), Nat.add_zero] at hp0
            rw [List.getElem?_toArray, cellsP_at L x 1 p hp (by omega)] at hp1
            simp [PE.cells] at hp0 hp1
            have hpl := hBp.lt
            clear hBp
            have HP := Lib.hid hp
            have HM := Lib.hid (mrg_l0 HP.out (by rw [HRL.out]; omega) hmr.out)
            clear hp
            have hxyn : x + y < n := by have := HNR.out; omega
            clear hyr
            go_wp2_with (at_builtin; refine wpList_append_fits _ rfl (.tmp 74) (.tmp 79) 22 rfl w2.heap.size 28 i0 2 Try.underlying22 HI.out HI1.out w2.heap.size (x + y) n (cellsP M) rfl (hown.out.alloc _) ⟨wr.heap.size, 0, none⟩ 1 1 (PE.cells p) rfl rfl (new_cells _ _ _) (fun u hu => by simp [PE.cells] at hu; rcases hu with rfl | rfl <;> rfl) (by omega) ?_)
            intro w8 hown1 hgrow1
            rw [← cellsP_app] at hown1
            have HO := Lib.hid hown1
            have HB := Lib.hid ((hbel.out.alloc hbel.out.size (.cells #[.string p.k, .string p.v] 28)).grown hgrow1 (by simp; exact Nat.le_succ_of_le hbel.out.size) (by intro q hq; injection hq with hq; omega))
            clear hown1 hgrow1 hown hbel
            go_wp2_with fail
            go_roundw
            case rel => exact ⟨x + 1, M ++ [p], by omega, by omega, by go_num, by rw [show x + 1 + y = x + y + 1 by omega], by rw [show x + 1 + y = x + y + 1 by omega]; exact HO, HM, HB⟩
            case measure => simp [intOf]; omega
          · obtain rfl : x = m := by omega
            go_wp2_with fail
            go_loopw [8, 10] (fun o j wr => ∃ (y : Nat) (M : List PE), y ≤ r ∧ j = .int .i64 y ∧ o = .slice (some ⟨w2.heap.size, 0, none⟩) (x + y) n ∧ Hid (wr.ownsRow w2.heap.size 28 2 (.slice (some ⟨w2.heap.size, 0, none⟩) (x + y) n) (x + y) (cellsP M)) ∧ Hid (M ++ List.merge (L.drop x) (R.drop y) leP = List.merge L R leP) ∧ Hid (Below w2.heap.size w2 wr)) (fun _ j _ => r - (intOf j).toNat)
            case atStart => exact ⟨y, M, hy, rfl, rfl, hown, hmr, hbel⟩
            case round =>
              rename_i wy
              clear hown hmr hbel
              obtain ⟨y, M, hyr, rfl, rfl, hown, hmr, hbel⟩ := hrel
              by_cases hlt2 : y < r
              · skip
                obtain ⟨q, hq⟩ : ∃ p, R[y]? = some p := ⟨R[y]'(by rw [HRL.out]; omega), by simp⟩
                have hBq := BLR.out.under hbel.out
                have hq0 := hBq.cell (y * 2)
                have hq1 := hBq.cell (y * 2 + 1)
                rw [List.getElem?_toArray, ← Nat.add_zero (y * 2), cellsP_at R y 0 q hq (by omega), Nat.add_zero] at hq0
                rw [List.getElem?_toArray, cellsP_at R y 1 q hq (by omega)] at hq1
                simp [PE.cells] at hq0 hq1
                have hql := hBq.lt
                clear hBq
                have HQ := Lib.hid hq
                have HM := Lib.hid (mrg_r0 HQ.out (by rw [HLL.out]; omega) hmr.out)
                clear hq
                have hxyn : x + y < n := by have := HNR.out; omega
                go_wp2_with (at_builtin; refine wpList_append_fits _ rfl (.tmp 87) (.tmp 92) 22 rfl w2.heap.size 28 i0 2 Try.underlying22 HI.out HI1.out w2.heap.size (x + y) n (cellsP M) rfl (hown.out.alloc _) ⟨wr.heap.size, 0, none⟩ 1 1 (PE.cells q) rfl rfl (new_cells _ _ _) (fun u hu => by simp [PE.cells] at hu; rcases hu with rfl | rfl <;> rfl) (by omega) ?_)
                intro w8 hown1 hgrow1
                rw [← cellsP_app] at hown1
                have HO := Lib.hid hown1
                have HB := Lib.hid ((hbel.out.alloc hbel.out.size (.cells #[.string q.k, .string q.v] 28)).grown hgrow1 (by simp; exact Nat.le_succ_of_le hbel.out.size) (by intro q hq; injection hq with hq; omega))
                clear hown1 hgrow1 hown hbel
                go_wp2_with fail
                go_roundw
                case rel => exact ⟨y + 1, M ++ [q], by omega, by go_num, rfl, HO, HM, HB⟩
                case measure => simp [intOf]; omega
              · obtain rfl : y = r := by omega
                have hMM := hmr.out
                rw [List.drop_eq_nil_of_le (by rw [HLL.out]; omega), List.drop_eq_nil_of_le (by rw [HRL.out]; omega)] at hMM
                have hMM2 : M = List.merge L R leP := by simpa using hMM
                have hown2 := hown.out
                have hxye : x + y = n := HNR.out.symm
                rw [hxye] at hown2
                have hblk := own_blk hown2
                have HMM := Lib.hid hMM2
                have HBK := Lib.hid hblk
                have hg2 := hblk.lt
                have BE := Lib.hid (B2.out.trans (hbel.out.mono B2.out.size))
                clear hMM hMM2 hblk hown2 hmr hown
                go_wp2_with fail
                go_ret
                refine ⟨M, w2.heap.size, (by show Ending.returned (Value.slice (some ⟨w2.heap.size, 0, none⟩) (x + y) n) = _; rw [show x + y = n from HNR.out.symm]), HBK.out, ?_, ?_, B2.out.size, BE.out⟩
                · rw [HMM.out]
                  refine (List.merge_perm_append leP).trans ?_
                  have := LP.out.append RP.out
                  rwa [List.take_append_drop] at this
                · rw [HMM.out]
                  exact List.pairwise_merge (le := leP) leP_trans leP_total L R LS.out RS.out
      · skip
        go_wp2_with fail
        clear hxm0
        have hex := HEX.out
        go_loopw [8, 9] (fun o i wr => ∃ (x : Nat) (M : List PE), x0 ≤ x ∧ x ≤ m ∧ i = .int .i64 x ∧ o = .slice (some ⟨w2.heap.size, 0, none⟩) (x + y) n ∧ Hid (wr.ownsRow w2.heap.size 28 2 (.slice (some ⟨w2.heap.size, 0, none⟩) (x + y) n) (x + y) (cellsP M)) ∧ Hid (M ++ List.merge (L.drop x) (R.drop y) leP = List.merge L R leP) ∧ Hid (Below w2.heap.size w2 wr)) (fun _ i _ => m - (intOf i).toNat)
        case atStart => exact ⟨x0, M0, Nat.le_refl _, hx, rfl, rfl, hown, hmr, hbel⟩
        case round =>
          rename_i wx
          clear hown hmr hbel hex
          obtain ⟨x, M, hx0, hxm, rfl, rfl, hown, hmr, hbel⟩ := hrel
          by_cases hlt : x < m
          · have hyr : y = r := by have := HEX.out; omega
            obtain ⟨p, hp⟩ : ∃ p, L[x]? = some p := ⟨L[x]'(by rw [HLL.out]; omega), by simp⟩
            have hBp := BLL.out.under hbel.out
            have hp0 := hBp.cell (x * 2)
            have hp1 := hBp.cell (x * 2 + 1)
            rw [List.getElem?_toArray, ← Nat.add_zero (x * 2), cellsP_at L x 0 p hp (by omega), Nat.add_zero] at hp0
            rw [List.getElem?_toArray, cellsP_at L x 1 p hp (by omega)] at hp1
            simp [PE.cells] at hp0 hp1
            have hpl := hBp.lt
            clear hBp
            have HP := Lib.hid hp
            have HM := Lib.hid (mrg_l0 HP.out (by rw [HRL.out]; omega) hmr.out)
            clear hp
            have hxyn : x + y < n := by have := HNR.out; omega
            clear hyr
            go_wp2_with (at_builtin; refine wpList_append_fits _ rfl (.tmp 74) (.tmp 79) 22 rfl w2.heap.size 28 i0 2 Try.underlying22 HI.out HI1.out w2.heap.size (x + y) n (cellsP M) rfl (hown.out.alloc _) ⟨wr.heap.size, 0, none⟩ 1 1 (PE.cells p) rfl rfl (new_cells _ _ _) (fun u hu => by simp [PE.cells] at hu; rcases hu with rfl | rfl <;> rfl) (by omega) ?_)
            intro w8 hown1 hgrow1
            rw [← cellsP_app] at hown1
            have HO := Lib.hid hown1
            have HB := Lib.hid ((hbel.out.alloc hbel.out.size (.cells #[.string p.k, .string p.v] 28)).grown hgrow1 (by simp; exact Nat.le_succ_of_le hbel.out.size) (by intro q hq; injection hq with hq; omega))
            clear hown1 hgrow1 hown hbel
            go_wp2_with fail
            go_roundw
            case rel => exact ⟨x + 1, M ++ [p], by omega, by omega, by go_num, by rw [show x + 1 + y = x + y + 1 by omega], by rw [show x + 1 + y = x + y + 1 by omega]; exact HO, HM, HB⟩
            case measure => simp [intOf]; omega
          · obtain rfl : x = m := by omega
            go_wp2_with fail
            go_loopw [8, 10] (fun o j wr => ∃ (y : Nat) (M : List PE), y ≤ r ∧ j = .int .i64 y ∧ o = .slice (some ⟨w2.heap.size, 0, none⟩) (x + y) n ∧ Hid (wr.ownsRow w2.heap.size 28 2 (.slice (some ⟨w2.heap.size, 0, none⟩) (x + y) n) (x + y) (cellsP M)) ∧ Hid (M ++ List.merge (L.drop x) (R.drop y) leP = List.merge L R leP) ∧ Hid (Below w2.heap.size w2 wr)) (fun _ j _ => r - (intOf j).toNat)
            case atStart => exact ⟨y, M, hy, rfl, rfl, hown, hmr, hbel⟩
            case round =>
              rename_i wy
              clear hown hmr hbel
              obtain ⟨y, M, hyr, rfl, rfl, hown, hmr, hbel⟩ := hrel
              by_cases hlt2 : y < r
              · skip
                obtain ⟨q, hq⟩ : ∃ p, R[y]? = some p := ⟨R[y]'(by rw [HRL.out]; omega), by simp⟩
                have hBq := BLR.out.under hbel.out
                have hq0 := hBq.cell (y * 2)
                have hq1 := hBq.cell (y * 2 + 1)
                rw [List.getElem?_toArray, ← Nat.add_zero (y * 2), cellsP_at R y 0 q hq (by omega), Nat.add_zero] at hq0
                rw [List.getElem?_toArray, cellsP_at R y 1 q hq (by omega)] at hq1
                simp [PE.cells] at hq0 hq1
                have hql := hBq.lt
                clear hBq
                have HQ := Lib.hid hq
                have HM := Lib.hid (mrg_r0 HQ.out (by rw [HLL.out]; omega) hmr.out)
                clear hq
                have hxyn : x + y < n := by have := HNR.out; omega
                go_wp2_with (at_builtin; refine wpList_append_fits _ rfl (.tmp 87) (.tmp 92) 22 rfl w2.heap.size 28 i0 2 Try.underlying22 HI.out HI1.out w2.heap.size (x + y) n (cellsP M) rfl (hown.out.alloc _) ⟨wr.heap.size, 0, none⟩ 1 1 (PE.cells q) rfl rfl (new_cells _ _ _) (fun u hu => by simp [PE.cells] at hu; rcases hu with rfl | rfl <;> rfl) (by omega) ?_)
                intro w8 hown1 hgrow1
                rw [← cellsP_app] at hown1
                have HO := Lib.hid hown1
                have HB := Lib.hid ((hbel.out.alloc hbel.out.size (.cells #[.string q.k, .string q.v] 28)).grown hgrow1 (by simp; exact Nat.le_succ_of_le hbel.out.size) (by intro q hq; injection hq with hq; omega))
                clear hown1 hgrow1 hown hbel
                go_wp2_with fail
                go_roundw
                case rel => exact ⟨y + 1, M ++ [q], by omega, by go_num, rfl, HO, HM, HB⟩
                case measure => simp [intOf]; omega
              · obtain rfl : y = r := by omega
                have hMM := hmr.out
                rw [List.drop_eq_nil_of_le (by rw [HLL.out]; omega), List.drop_eq_nil_of_le (by rw [HRL.out]; omega)] at hMM
                have hMM2 : M = List.merge L R leP := by simpa using hMM
                have hown2 := hown.out
                have hxye : x + y = n := HNR.out.symm
                rw [hxye] at hown2
                have hblk := own_blk hown2
                have HMM := Lib.hid hMM2
                have HBK := Lib.hid hblk
                have hg2 := hblk.lt
                have BE := Lib.hid (B2.out.trans (hbel.out.mono B2.out.size))
                clear hMM hMM2 hblk hown2 hmr hown
                go_wp2_with fail
                go_ret
                refine ⟨M, w2.heap.size, (by show Ending.returned (Value.slice (some ⟨w2.heap.size, 0, none⟩) (x + y) n) = _; rw [show x + y = n from HNR.out.symm]), HBK.out, ?_, ?_, B2.out.size, BE.out⟩
                · rw [HMM.out]
                  refine (List.merge_perm_append leP).trans ?_
                  have := LP.out.append RP.out
                  rwa [List.take_append_drop] at this
                · rw [HMM.out]
                  exact List.pairwise_merge (le := leP) leP_trans leP_total L R LS.out RS.out

/-- sortPairs, at every list. -/
theorem sort10 (n : Nat) : ∀ (w : World) (a : Option Addr) (c : Nat) (ps : List PE), IsPs w a n c ps → n ≤ 65536 → Calls Try.prog 10 #[.slice a n c] w (SortedR w n ps) := by
  induction n using Nat.strongRecOn with
  | _ n ih =>
    intro w a c ps h hn
    by_cases h2 : 2 ≤ n
    · exact sort_step n h2 hn (fun k hk w a c ps h hk2 => ih k hk w a c ps h hk2) w a c ps h
    · match ps, h.1 with
      | [], e =>
        obtain rfl : n = 0 := by simpa using e.symm
        exact sort0 w a c
      | [p], e =>
        obtain rfl : n = 1 := by simpa using e.symm
        exact sort1 w a c p h
      | p :: q :: r, e => simp at e; omega
end Go.Proofs.Ytlbiknodipcnbaa
