/- sortGroup: a group whose variables repeat stays; any other is put in the order of its keys. -/
import Derived.Test.YtljfgplccnaboaaFmtLay
import Derived.Test.YtljfgplccnaboaaFmtSet
import Derived.Test.YtljfgplccnaboaaFmtFrm
import Derived.Test.YtljfgplccnaboaaFmtRws
import Derived.Test.YtljfgplccnaboaaFmtPls
import Derived.Lib.SortBridge
namespace Go.Proofs.YtljfgplccnaboaaFmt
open Go.RowKit Go.Maps
set_option linter.unusedVariables false

structure IE where
  aa : Option Addr
  al : Nat
  ac : Nat
  key : ByteArray
  va : Option Addr
  vl : Nat
  vc : Nat
  body : Option Nat
  var : ByteArray
instance : Inhabited IE := ⟨⟨none, 0, 0, ⟨#[]⟩, none, 0, 0, none, ⟨#[]⟩⟩⟩
def bvOf : Option Nat → Value
  | none => .nilIface
  | some b => .iface 68 (.pointer (some ⟨b, 0, none⟩))
theorem bv_one (b : Option Nat) : (bvOf b).oneCell' = true := by cases b <;> rfl
def IE.cells (e : IE) : List Value := [.slice e.aa e.al e.ac, .string e.key, .slice e.va e.vl e.vc, bvOf e.body, .slice none 0 0, .string e.var, .slice none 0 0, .pointer none, .pointer none, .string ⟨#[]⟩, .int .i64 0, .int .i64 0, .int .i64 0, .int .i64 0]
theorem IE.one (e : IE) : ∀ v ∈ e.cells, v.oneCell' = true := by
  intro v hv
  simp only [IE.cells, List.mem_cons, List.not_mem_nil, or_false] at hv
  rcases hv with rfl | rfl | rfl | rfl | rfl | rfl | rfl | rfl | rfl | rfl | rfl | rfl | rfl | rfl
  all_goals first | rfl | exact bv_one _
def cellsI (es : List IE) : List Value := es.flatMap IE.cells
theorem cellsI_len (es : List IE) : (cellsI es).length = es.length * 14 := flat_len IE.cells 14 (fun _ => rfl) es
theorem cellsI_at (es : List IE) (i j : Nat) (e : IE) (h : es[i]? = some e) (hj : j < 14) : (cellsI es)[i * 14 + j]? = e.cells[j]? := flat_at IE.cells 14 (fun _ => rfl) es i j e h hj
theorem rowI_at {w : World} {g : Nat} {es : List IE} {rest : List Value} (h : Blk w g 55 (cellsI es ++ rest).toArray) {k : Nat} {e : IE} (he : es[k]? = some e) (j : Nat) (hj : j < 14) : w.cell? ⟨g, k * 14 + j, none⟩ = e.cells[j]? := by
  have hk := (List.getElem?_eq_some_iff.1 he).1
  rw [h.cell, List.getElem?_toArray, List.getElem?_append_left (by rw [cellsI_len]; omega), cellsI_at es k j e he hj]

def RepI (w : World) (p : Prop) (e : Ending) (w' : World) : Prop := ∃ r : Bool, e = .returned (.bool r) ∧ Below w.heap.size w w' ∧ (p ↔ r = false)
theorem law9 : Keyed Tryf.prog 9 := string_keyed Tryf.underlying9
def MapIs (w : World) (B n : Nat) (ks : List ByteArray) : Prop := ∃ D : DataW Unit, w.ownsMap Tryf.prog 9 (plainElem Tryf.prog 4) B n D ∧ Holds D ks
theorem Holds.old {D : DataW Unit} {ks : List ByteArray} (h : Holds D ks) (s : ByteArray) (d : DataW Unit) (hs : mem ks s = true) : Holds (D.put (kl s) d) ks := by
  obtain ⟨h1, h2, h3, h4⟩ := h
  refine ⟨h1, ?_, h3.put (kl_key s) d, fun x => ?_⟩
  · rw [size_put h3, h4 s, hs, if_pos rfl, h2]
  · by_cases hx : x = s
    · subst hx
      rw [has_put_same h3.isMap (kl_key x), hs]
    · rw [has_put_other (fun e => hx (kl_inj e)), h4 x]
/-- The keys laid so far are just those of the first k. -/
def Good (vs : List ByteArray) (k : Nat) (ks : List ByteArray) : Prop := (∀ s, s ∈ ks ↔ s ∈ vs.take k) ∧ ks.length ≤ k ∧ (ks.length = k ↔ (vs.take k).Nodup)
theorem Good.zero (vs : List ByteArray) : Good vs 0 [] := ⟨fun s => by simp, Nat.le_refl _, by simp⟩
theorem Good.old {vs : List ByteArray} {k : Nat} {ks : List ByteArray} {s : ByteArray} (h : Good vs k ks) (hs : vs[k]? = some s) (hm : mem ks s = true) : Good vs (k + 1) ks := by
  obtain ⟨h1, h2, h3⟩ := h
  have hm' := (mem_iff _ _).1 hm
  refine ⟨fun x => ?_, by omega, ⟨fun h => by omega, fun h => ?_⟩⟩
  · rw [List.take_add_one, hs, List.mem_append, ← h1 x]
    constructor
    · exact .inl
    · rintro (h | h)
      · exact h
      · simp at h; subst h; exact hm'
  · rw [List.take_add_one, hs, List.nodup_append] at h
    exact absurd rfl (h.2.2 s ((h1 s).1 hm') s (by simp))
theorem Good.new {vs : List ByteArray} {k : Nat} {ks : List ByteArray} {s : ByteArray} (h : Good vs k ks) (hs : vs[k]? = some s) (hm : mem ks s = false) : Good vs (k + 1) (ks ++ [s]) := by
  obtain ⟨h1, h2, h3⟩ := h
  have hm' := (mem_not _ _).1 hm
  refine ⟨fun x => ?_, by simp; omega, ?_⟩
  · rw [List.take_add_one, hs, List.mem_append, List.mem_append, h1 x]
    simp
  · rw [List.take_add_one, hs, List.nodup_append, List.length_append, List.length_singleton]
    constructor
    · intro h
      exact ⟨h3.1 (by omega), by simp, fun a ha b hb => by rintro rfl; simp at hb; subst hb; exact hm' ((h1 _).2 ha)⟩
    · intro h
      have := h3.2 h.1
      omega

set_option maxRecDepth 100000 in
set_option maxHeartbeats 3200000 in
theorem dup43 (w : World) (g n c : Nat) (es : List IE) (rest : List Value) (hB : Blk w g 55 (cellsI es ++ rest).toArray) (hl : es.length = n) (hn : n ≤ 65536) (hs : ∀ e ∈ es, e.var.size ≤ maxLen) :
    Calls Tryf.prog 43 #[.slice (some ⟨g, 0, none⟩) n c] w (RepI w (es.map IE.var).Nodup) := by
  have HB := Lib.hid hB
  have HL := Lib.hid hl
  have HS := Lib.hid hs
  have hgl := hB.lt
  have hmm := @run_makeMap Tryf.prog
  clear hB hl hs
  go_enter Tryf.func43, Tryf.ntmps43
  go_wp2_with fail
  go_loopw [9] (fun i wr => ∃ k : Nat, k ≤ n ∧ i = .int .i64 k ∧ Hid (∃ ks, MapIs wr w.heap.size k ks ∧ Good (es.map IE.var) k ks) ∧ Hid (Below w.heap.size w wr)) (fun i _ => n - (intOf i).toNat)
  case atStart => exact ⟨0, Nat.zero_le _, rfl, Lib.hid ⟨[], ⟨.map [], World.ownsMap_made _ _ _ _, Holds.nil⟩, Good.zero _⟩, Lib.hid ((Below.refl _ _).alloc (Nat.le_refl _) _)⟩
  case round =>
    clear hmm
    obtain ⟨k, hk, rfl, hmp, hbel⟩ := hrel
    obtain ⟨ks, ⟨D, hown, hh⟩, hgood⟩ := hmp.out
    have HOW := Lib.hid hown
    have HHO := Lib.hid hh
    have HGO := Lib.hid hgood
    have hBl := hown.lt
    clear hgood
    by_cases hlt : k < n
    · obtain ⟨e, he⟩ : ∃ e, es[k]? = some e := ⟨es[k]'(by rw [HL.out]; exact hlt), by simp⟩
      have hBw := HB.out.under hbel.out
      have hgw := hBw.lt
      have x0 := rowI_at hBw he 0 (by omega)
      rw [Nat.add_zero] at x0
      have x1 := rowI_at hBw he 1 (by omega)
      have x2 := rowI_at hBw he 2 (by omega)
      have x3 := rowI_at hBw he 3 (by omega)
      have x4 := rowI_at hBw he 4 (by omega)
      have x5 := rowI_at hBw he 5 (by omega)
      have x6 := rowI_at hBw he 6 (by omega)
      have x7 := rowI_at hBw he 7 (by omega)
      have x8 := rowI_at hBw he 8 (by omega)
      have x9 := rowI_at hBw he 9 (by omega)
      have x10 := rowI_at hBw he 10 (by omega)
      have x11 := rowI_at hBw he 11 (by omega)
      have x12 := rowI_at hBw he 12 (by omega)
      have x13 := rowI_at hBw he 13 (by omega)
      have hvs : (es.map IE.var)[k]? = some e.var := by rw [List.getElem?_map, he]; rfl
      have hkey : keyOf Tryf.prog 9 (.string e.var) = some (kl e.var) := Go.WideMaps.keyOf_string_mk Tryf.underlying9 (HS.out e (List.mem_of_getElem? he))
      have HVS := Lib.hid hvs
      obtain ⟨aa, al, ac, key, va, vl, vc, body, var⟩ := e
      simp only [IE.cells, List.getElem?_cons_zero, List.getElem?_cons_succ] at x0 x1 x2 x3 x4 x5 x6 x7 x8 x9 x10 x11 x12 x13 hkey HVS
      cases body with
      | none =>
        simp only [bvOf] at x3
        clear hvs he hBw hown hh
        have hown := HOW.out
        go_wp2_with (first
          | (at_mapUpdate; refine wpList_mapUpdate_own _ rfl _ _ _ 111 rfl 9 4 law9 Tryf.underlying111 (plainElem (H := Unit) Tryf.prog 4) w.heap.size k _ rfl (hown.alloc _) (by unfold maxLen; omega) _ _ _ rfl rfl hkey _ [] (plainElem_bool Tryf.underlying4 true) ?_; intro w1 hown1 hgrow1)
          | fail)
        have HB2 := Lib.hid ((hbel.out.alloc hbel.out.size _).grown hgrow1 (by simp; exact Nat.le_succ_of_le hbel.out.size) (by intro q hq; injection hq with hq; omega))
        have HN : Hid (∃ ks, MapIs w1 w.heap.size (k + 1) ks ∧ Good (es.map IE.var) (k + 1) ks) := Lib.hid (by
          cases hm : mem ks var
          · exact ⟨_, ⟨_, hown1, HHO.out.new var _ hm⟩, HGO.out.new HVS.out hm⟩
          · exact ⟨_, ⟨_, hown1, HHO.out.old var _ hm⟩, HGO.out.old HVS.out hm⟩)
        clear hown1 hgrow1 hown x0 x1 x2 x3 x4 x5 x6 x7 x8 x9 x10 x11 x12 x13
        go_wp2_with fail
        go_roundw
        case rel => exact ⟨k + 1, by omega, by go_num, HN, HB2⟩
        case measure => simp [intOf]; omega
      | some bb =>
        simp only [bvOf] at x3
        clear hvs he hBw hown hh
        have hown := HOW.out
        go_wp2_with (first
          | (at_mapUpdate; refine wpList_mapUpdate_own _ rfl _ _ _ 111 rfl 9 4 law9 Tryf.underlying111 (plainElem (H := Unit) Tryf.prog 4) w.heap.size k _ rfl (hown.alloc _) (by unfold maxLen; omega) _ _ _ rfl rfl hkey _ [] (plainElem_bool Tryf.underlying4 true) ?_; intro w1 hown1 hgrow1)
          | fail)
        have HB2 := Lib.hid ((hbel.out.alloc hbel.out.size _).grown hgrow1 (by simp; exact Nat.le_succ_of_le hbel.out.size) (by intro q hq; injection hq with hq; omega))
        have HN : Hid (∃ ks, MapIs w1 w.heap.size (k + 1) ks ∧ Good (es.map IE.var) (k + 1) ks) := Lib.hid (by
          cases hm : mem ks var
          · exact ⟨_, ⟨_, hown1, HHO.out.new var _ hm⟩, HGO.out.new HVS.out hm⟩
          · exact ⟨_, ⟨_, hown1, HHO.out.old var _ hm⟩, HGO.out.old HVS.out hm⟩)
        clear hown1 hgrow1 hown x0 x1 x2 x3 x4 x5 x6 x7 x8 x9 x10 x11 x12 x13
        go_wp2_with fail
        go_roundw
        case rel => exact ⟨k + 1, by omega, by go_num, HN, HB2⟩
        case measure => simp [intOf]; omega
    · obtain rfl : k = n := by omega
      have hkn : ks.length ≤ k := HGO.out.2.1
      have hsz : Maps.size D = ks.length := HHO.out.2.1
      obtain ⟨L, hL⟩ : ∃ L, L = ks.length := ⟨_, rfl⟩
      rw [← hL] at hsz hkn
      have HLL := Lib.hid hL
      clear hL hh
      go_wp2_with (first
        | (at_len; refine wpList_len_own _ rfl _ 111 rfl 9 4 Tryf.underlying111 (plainElem (H := Unit) Tryf.prog 4) w.heap.size k _ rfl hown ?_)
        | fail)
      go_ret
      refine ⟨_, rfl, hbel.out, ?_⟩
      have h3 := HGO.out.2.2
      rw [List.take_of_length_le (by rw [List.length_map, HL.out]; exact Nat.le_refl _), ← HLL.out] at h3
      rw [← h3]
      simp
      omega

/-! ### the sort -/

def ltI (x y : IE) : Bool := ltS x.key y.key
theorem swo_ltI : Sort.SWO ltI where
  irrefl x := ltS_irrefl _
  trans x y z h1 h2 := ltS_trans h1 h2
  ntrans x y z h1 h2 := by
    cases h : ltI x z with
    | false => rfl
    | true =>
      unfold ltI at *
      cases h3 : ltS y.key x.key with
      | false =>
        rw [ltS_tri h1 h3] at h
        rw [h] at h2
        cases h2
      | true =>
        have := ltS_trans h3 h
        rw [this] at h2
        cases h2

set_option maxRecDepth 100000 in
set_option maxHeartbeats 2000000 in
/-- sortGroup's closure. -/
theorem less45 (blk c Bs size : Nat) (W : World) (G : Nat → ByteArray) (hs : W.cell? ⟨Bs, 0, none⟩ = some (.slice (some ⟨blk, 0, none⟩) size c))
    (hc : ∀ t, t < size → W.cell? ⟨blk, t * 14 + 1, none⟩ = some (.string (G t))) (i j : Nat) (hi : i < size) (hj : j < size) (_hsz : size < 4611686018427387904) :
    Calls Tryf.prog 45 #[.int .i64 i, .int .i64 j, .pointer (some ⟨Bs, 0, none⟩)] W fun e w' => e = .returned (.bool (ltS (G i) (G j))) ∧ ∃ q, w' = W.drewN q := by
  have ci := hc i hi
  have cj := hc j hj
  unfold ltS
  go_enter Tryf.func45, Tryf.ntmps45
  go_wp2
  go_quiet (fail)
  go_wp2
  go_ret
  exact ⟨rfl, nq, rfl⟩
noncomputable def sgT : TypeInfo := (Tryf.prog.info? 41).get (by kernel_rfl)
noncomputable def sgE : TypeInfo := (Tryf.prog.info? 55).get (by kernel_rfl)
theorem sgK (n : Nat) (h2 : 2 ≤ n) : Lib.swapperK n sgE 25 = 9 := by
  have a : sgE.hasPointers = true := by kernel_rfl
  have b : sgE.bytes = 208 := by kernel_rfl
  have c : (n == 0) = false := by simp; omega
  have d : (n == 1) = false := by simp; omega
  simp [Lib.swapperK, a, b, c, d]
theorem flat_cells (es : List IE) : Go.Sort.flatK IE.cells 14 es.toArray = (cellsI es).toArray := by
  apply Array.ext_getElem?
  intro t
  rcases Nat.lt_or_ge t (es.length * 14) with ht | ht
  · have hd : t / 14 < es.length := (Nat.div_lt_iff_lt_mul (by decide)).2 ht
    have e : t / 14 * 14 + t % 14 = t := by rw [Nat.mul_comm]; exact Nat.div_add_mod t 14
    have hm := Nat.mod_lt t (show 0 < 14 by decide)
    have hR := cellsI_at es (t / 14) (t % 14) es[t / 14] (by simp) hm
    rw [e] at hR
    have h2 : t % 14 < es[t / 14].cells.length := hm
    have hsz : t < (Go.Sort.flatK IE.cells 14 es.toArray).size := by rw [Go.Sort.size_flatK]; simpa using ht
    have hRR : (cellsI es).toArray[t]? = some es[t / 14].cells[t % 14] := by
      have : (cellsI es).toArray[t]? = (cellsI es)[t]? := by simp
      rw [this, hR, List.getElem?_eq_getElem h2]
    rw [hRR, Array.getElem?_eq_getElem hsz]
    congr 1
    have h3 := Go.Sort.get_flatK IE.cells 14 es.toArray t (by simpa using ht)
    rw [getElem!_pos _ t hsz] at h3
    rw [h3]
    simp [hd, h2]
  · rw [Array.getElem?_eq_none (by rw [Go.Sort.size_flatK]; simpa using ht), Array.getElem?_eq_none (by rw [List.size_toArray, cellsI_len]; exact ht)]
theorem holds_of {w : World} {g : Nat} {es : List IE} {rest : List Value} (h : Blk w g 55 (cellsI es ++ rest).toArray) : Go.Sort.HoldsK IE.cells 14 w g 0 es.toArray := by
  unfold Go.Sort.HoldsK
  rw [flat_cells]
  intro j hj
  refine ⟨?_, h.free _⟩
  rw [Nat.zero_add, h.cell, List.getElem?_toArray, List.getElem?_append_left (by simpa using hj)]
  rw [getElem!_pos _ j hj, List.getElem?_eq_getElem (by simpa using hj)]
  rfl
theorem blk_sorted {W : World} {g m : Nat} {es es' : List IE} {rest : List Value} (os : Array Obj) (h : Blk W g 55 (cellsI es ++ rest).toArray) (hl : es'.length = es.length) :
    Blk (Go.Sort.grow (Go.Sort.putRowK IE.cells 14 (Go.Sort.ahead W m) g 0 es'.toArray) os) g 55 (cellsI es' ++ rest).toArray := by
  have hg := h.lt
  have hsz : (Go.Sort.putRowK IE.cells 14 (Go.Sort.ahead W m) g 0 es'.toArray).heap.size = W.heap.size := by rw [Go.Sort.size_putRowK]; rfl
  unfold Blk
  rw [Go.Sort.heap_grow_old _ _ (by rw [hsz]; exact hg)]
  unfold Go.Sort.putRowK
  rw [flat_cells]
  have hh : (Go.Sort.ahead W m).heap[g]? = some (.cells (cellsI es ++ rest).toArray 55 (0, 0)) := h
  have : (Go.Sort.putRow id (Go.Sort.ahead W m) g 0 (cellsI es').toArray).heap[g]? = some (.cells (Go.Sort.putCells id 0 (cellsI es').toArray (cellsI es ++ rest).toArray) 55 (0, 0)) := by
    unfold Go.Sort.putRow Go.Sort.mapBlock
    simp only [Array.getElem?_modify, if_true, hh, Option.map_some]
    rfl
  rw [this]
  congr 2
  apply Array.ext_getElem?
  intro k
  have hle : (cellsI es').length = (cellsI es).length := by rw [cellsI_len, cellsI_len, hl]
  unfold Go.Sort.putCells
  rw [Array.getElem?_mapIdx, List.getElem?_toArray, List.getElem?_toArray]
  rcases Nat.lt_or_ge k (cellsI es').length with hk | hk
  · rw [List.getElem?_append_left (by omega), List.getElem?_append_left hk, List.getElem?_eq_getElem (by omega), List.getElem?_eq_getElem hk]
    simp [hk]
  · rw [List.getElem?_append_right (by omega), List.getElem?_append_right hk, hle]
    have : ¬ (0 ≤ k ∧ k < 0 + (cellsI es').toArray.size) := by simp; omega
    simp only [this, if_false]
    cases rest[k - (cellsI es).length]? <;> rfl
theorem fr_sorted (W : World) (g m : Nat) (es' : List IE) (os : Array Obj) : Fr W (Go.Sort.grow (Go.Sort.putRowK IE.cells 14 (Go.Sort.ahead W m) g 0 es'.toArray) os) (fun b => b = g) := by
  have hsz : (Go.Sort.putRowK IE.cells 14 (Go.Sort.ahead W m) g 0 es'.toArray).heap.size = W.heap.size := by rw [Go.Sort.size_putRowK]; rfl
  refine ⟨rfl, rfl, rfl, by rw [Go.Sort.size_grow, hsz]; omega, fun b hb hx => ?_⟩
  rw [Go.Sort.heap_grow_old _ _ (by rw [hsz]; exact hb)]
  unfold Go.Sort.putRowK Go.Sort.putRow Go.Sort.mapBlock
  simp only [Array.getElem?_modify]
  rw [if_neg (fun h => hx h.symm)]
  rfl
theorem fr_grow (W : World) (os : Array Obj) (X : Nat → Prop) : Fr W (Go.Sort.grow W os) X := ⟨rfl, rfl, rfl, by rw [Go.Sort.size_grow]; omega, fun b hb _ => Go.Sort.heap_grow_old _ _ hb⟩
/-- What sortGroup leaves. -/
def GroupD (w : World) (g : Nat) (es : List IE) (rest : List Value) (e : Ending) (w' : World) : Prop :=
  ∃ es', e = .returned (.tuple #[]) ∧ Blk w' g 55 (cellsI es' ++ rest).toArray ∧ Fr w w' (fun b => b = g) ∧ ((es.map IE.var).Nodup → es'.Perm es ∧ es'.Pairwise (fun x y => ltS y.key x.key = false)) ∧ (¬ (es.map IE.var).Nodup → es' = es)

set_option maxRecDepth 100000 in
set_option maxHeartbeats 3200000 in
theorem slice44 (W : World) (g n c Bs : Nat) (es : List IE) (rest : List Value) (hB : Blk W g 55 (cellsI es ++ rest).toArray) (hl : es.length = n) (hn : n ≤ 65536) (hBs : W.cell? ⟨Bs, 0, none⟩ = some (.slice (some ⟨g, 0, none⟩) n c)) (hBl : Bs < W.heap.size) (hBg : Bs ≠ g) :
    Calls Tryf.prog 44 #[.iface 41 (.slice (some ⟨g, 0, none⟩) n c), .func (.func 45) #[] #[.pointer (some ⟨Bs, 0, none⟩)]] W fun e w' => e = .returned (.tuple #[]) ∧ ∃ es', Blk w' g 55 (cellsI es' ++ rest).toArray ∧ Fr W w' (fun b => b = g) ∧ es'.Perm es ∧ es'.Pairwise (fun x y => ltS y.key x.key = false) := by
  have hgl := hB.lt
  by_cases h2 : 2 ≤ n
  · have hH := holds_of hB
    have hds : es.toArray.size = n := by simpa using hl
    have hless : Go.Proofs.LessReadsK Tryf.prog 45 #[.pointer (some ⟨Bs, 0, none⟩)] IE.cells 14 ltI g 0 es.toArray.size W := by
      intro m os dk hs i j hi hj
      have e : Go.Proofs.sortWorldK IE.cells 14 W g 0 m dk os = Go.Sort.putRowK IE.cells 14 (Go.Sort.grow (Go.Sort.ahead W m) os) g 0 dk := by
        unfold Go.Proofs.sortWorldK; rw [Go.Sort.putRowK_grow _ _ (Go.Sort.ahead W m) _ g 0 _ hgl]
      have hHg : Go.Sort.HoldsK IE.cells 14 (Go.Sort.grow (Go.Sort.ahead W m) os) g 0 es.toArray := Go.Sort.holdsK_grow _ _ _ _ g 0 _ hgl (Go.Sort.holdsK_ahead _ _ _ _ _ _ _ hH)
      refine less45 g c Bs n _ (fun t => dk[t]!.key) ?_ (fun t ht => ?_) i j (by omega) (by omega) (by omega)
      · rw [e, Go.Sort.cell?_putRowK_other _ _ _ g 0 dk _ (by exact hBg), Go.Sort.cell?_grow _ _ _ (by exact hBl)]; exact hBs
      · rw [e]
        have := ((Go.Sort.holdsK_putRowK _ _ _ g 0 es.toArray dk hHg hs).cell (i := t) (c := 1) (by omega) (by omega)).1
        rw [Nat.zero_add] at this
        exact this
    have hS := Go.Proofs.Any.sort_Slice_cells_sorted Tryf.sg6 41 55 sgT sgE (by kernel_rfl) (by kernel_rfl) (by kernel_rfl) (by kernel_rfl) 25 (fun _ => by kernel_rfl) IE.cells 14 (fun _ => rfl) (by kernel_rfl) (fun _ => by kernel_rfl)
      IE.one ltI swo_ltI 45 _ (enters_of Tryf.func45 (by kernel_rfl) rfl) g 0 c es.toArray (by omega) (by omega) 61 (by rw [sgK _ (by omega)]; kernel_rfl) false
      (fun args W => run_callFunc_extern Tryf.func61 (by kernel_rfl) (by kernel_rfl) (by kernel_rfl) (e := Extern.ReflectliteSwapper.swap false) (by kernel_rfl) args W) W hless hH hgl
    rw [hds] at hS
    refine hS.mono ?_
    rintro e w' ⟨rfl, d', m, os, hp, hso, rfl⟩
    obtain ⟨es', rfl⟩ : ∃ l : List IE, d' = l.toArray := ⟨d'.toList, by simp⟩
    have hl' : es'.length = es.length := by have := hp.1; simpa using this
    have hpp : es'.Perm es := by
      have := hp.2.2
      have e1 : (es'.toArray.extract 0 n).toList = es' := by simp; exact List.take_of_length_le (by omega)
      have e2 : (es.toArray.extract 0 n).toList = es := by simp; exact List.take_of_length_le (by omega)
      rwa [e1, e2] at this
    refine ⟨rfl, es', blk_sorted os hB hl', fr_sorted W g m es' os, hpp, List.pairwise_iff_getElem.2 fun i j hi hj hij => ?_⟩
    have := hso i j (Nat.zero_le _) hij (by omega)
    rw [getElem!_pos _ j (by simpa using hj), getElem!_pos _ i (by simpa using hi)] at this
    exact this
  · have hK : Lib.swapperK n sgE 25 = n + 1 := by
      rcases Nat.eq_zero_or_pos n with h | h
      · subst h; simp [Lib.swapperK]
      · obtain rfl : n = 1 := by omega
        simp [Lib.swapperK]
    have hS := Go.Proofs.Any.sort_Slice_tiny Tryf.sg6 41 55 sgT sgE (by kernel_rfl) (by kernel_rfl) (by kernel_rfl) (by kernel_rfl) 25 (fun _ => by kernel_rfl) (some ⟨g, 0, none⟩) n c (by omega) (53 + n) (by
      rw [hK]
      rcases Nat.eq_zero_or_pos n with h | h
      · subst h; kernel_rfl
      · obtain rfl : n = 1 := by omega
        kernel_rfl) (.func 45) #[] #[.pointer (some ⟨Bs, 0, none⟩)] W
    refine hS.mono ?_
    rintro e w' ⟨rfl, os, rfl⟩
    refine ⟨rfl, es, (fr_grow W os (fun b => b = g ∧ False)).blk hB (fun h => h.2), fr_grow W os _, List.Perm.refl _, List.pairwise_iff_getElem.2 fun i j hi hj hij => by omega⟩

set_option maxRecDepth 100000 in
set_option maxHeartbeats 3200000 in
theorem group36 (w : World) (g n c : Nat) (es : List IE) (rest : List Value) (hB : Blk w g 55 (cellsI es ++ rest).toArray) (hl : es.length = n) (hn : n ≤ 65536) (hs : ∀ e ∈ es, e.var.size ≤ maxLen) :
    Calls Tryf.prog 36 #[.slice (some ⟨g, 0, none⟩) n c] w (GroupD w g es rest) := by
  have KD := Lib.hid (dup43 (w.alloc (.cells #[.slice (some ⟨g, 0, none⟩) n c] 41)) g n c es rest (hB.alloc _) hl hn hs)
  have hgl := hB.lt
  have HB := Lib.hid hB
  have HF := Lib.hid ((Fr.refl w (fun b => b = g)).alloc (.cells #[.slice (some ⟨g, 0, none⟩) n c] 41))
  have c0 := (Blk.new w 41 #[.slice (some ⟨g, 0, none⟩) n c]).cell 0
  have cl := (Blk.new w 41 #[.slice (some ⟨g, 0, none⟩) n c]).lt
  have HC0 := Lib.hid c0
  have HCL := Lib.hid cl
  clear hB c0 cl
  unfold RepI at KD
  go_enter Tryf.func36, Tryf.ntmps36
  go_wp2_with fail
  refine KD.out.mono ?_
  rintro e w1 ⟨r, rfl, hb1, hr⟩
  have hsw := hb1.size
  have HR := Lib.hid hr
  have HB1 := Lib.hid ((HB.out.alloc (.cells #[.slice (some ⟨g, 0, none⟩) n c] 41)).under hb1)
  have HF1 := Lib.hid (HF.out.step (Fr.of_below hb1 (fun _ => False)) fun b hb h => h.elim)
  have c0 := (hb1.cell (p := ⟨w.heap.size, 0, none⟩) HCL.out).trans HC0.out
  have cl := Nat.lt_of_lt_of_le HCL.out hb1.size
  simp at c0
  clear hb1 hr KD
  cases r
  · have hnd := HR.out.2 rfl
    have KS := Lib.hid (slice44 w1 g n c w.heap.size es rest HB1.out hl hn c0 cl (by omega))
    have HND := Lib.hid hnd
    clear hnd
    go_wp2_with fail
    refine KS.out.mono ?_
    rintro e w2 ⟨rfl, es', hb2, hfr2, hp, hso⟩
    have H1 := Lib.hid hb2
    have H2 := Lib.hid (HF1.out.trans hfr2)
    have H3 := Lib.hid hp
    have H4 := Lib.hid hso
    clear hb2 hfr2 hp hso KS
    go_wp2_with fail
    go_end0
    exact ⟨es', rfl, H1.out, H2.out, fun _ => ⟨H3.out, H4.out⟩, fun h => absurd HND.out h⟩
  · go_wp2_with fail
    go_end0
    exact ⟨es, rfl, HB1.out, HF1.out, (fun h => by have := HR.out.1 h; cases this), fun _ => rfl⟩
end Go.Proofs.YtljfgplccnaboaaFmt
