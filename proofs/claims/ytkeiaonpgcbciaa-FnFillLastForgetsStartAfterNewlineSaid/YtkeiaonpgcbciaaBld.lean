/- zzKind, zzBytes, the clones, zzBuildBare, ZZSetIndents. -/
import Derived.Test.YtkeiaonpgcbciaaInd
namespace Go.Proofs.Ytkeiaonpgcbciaa
open Go.RowKit
set_option linter.unusedVariables false

def SomeI (w : World) (e : Ending) (w' : World) : Prop := ∃ n : Int, e = .returned (.int .i64 n) ∧ w = w'
def SomeB (w : World) (e : Ending) (w' : World) : Prop := ∃ b : Bool, e = .returned (.bool b) ∧ w = w'

/-- The kind that a number stands for. -/
def kindI (x : Int) : Int := x % 3

theorem tmod3 (x : Int) : (x.tmod 3 < 0 ∧ x % 3 = x.tmod 3 + 3) ∨ (0 ≤ x.tmod 3 ∧ x % 3 = x.tmod 3) := by
  rw [Int.tmod_eq_emod]
  split
  · right; constructor <;> omega
  · rename_i h
    by_cases hd : (3 : Int) ∣ x
    · simp_all
    · left
      constructor <;> simp <;> omega

theorem kind_any (w : World) (x : Int) : Calls Try.prog 17 #[.int .i64 x] w fun e w' => e = .returned (.int .i64 (kindI x)) ∧ w = w' := by
  have b1 := Int.tmod_lt_of_pos x (show (0 : Int) < 3 by decide)
  have b2 := Int.lt_tmod_of_pos x (show (0 : Int) < 3 by decide)
  have h3 := tmod3 x
  have hk : kindI x = x % 3 := rfl
  generalize hk2 : kindI x = K at *
  generalize hx3 : x % 3 = y at *
  have hy : 0 ≤ y ∧ y < 3 := by omega
  generalize hm : x.tmod 3 = m at *
  clear hx3 hk2
  subst hk
  by_cases hneg : m < 0
  · by_cases h0 : m = -3
    · omega
    by_cases h1 : m = -2
    · subst h1
      obtain rfl : K = 1 := by omega
      clear h3 hy h0 b1 b2
      go_enter Try.func17, Try.ntmps17
      go_wp2
      go_ret
      exact ⟨rfl, rfl⟩
    · obtain rfl : m = -1 := by omega
      obtain rfl : K = 2 := by omega
      clear h3 hy h0 b1 b2
      go_enter Try.func17, Try.ntmps17
      go_wp2
      go_ret
      exact ⟨rfl, rfl⟩
  · by_cases h0 : m = 0
    · subst h0
      obtain rfl : K = 0 := by omega
      clear h3 hy b1 b2
      go_enter Try.func17, Try.ntmps17
      go_wp2
      go_ret
      exact ⟨rfl, rfl⟩
    by_cases h1 : m = 1
    · subst h1
      obtain rfl : K = 1 := by omega
      clear h3 hy h0 b1 b2
      go_enter Try.func17, Try.ntmps17
      go_wp2
      go_ret
      exact ⟨rfl, rfl⟩
    · obtain rfl : m = 2 := by omega
      obtain rfl : K = 2 := by omega
      clear h3 hy h0 b1 b2
      go_enter Try.func17, Try.ntmps17
      go_wp2
      go_ret
      exact ⟨rfl, rfl⟩

theorem str_at {w : World} {b off : Nat} {ss : List ByteArray} (hc : ∀ i u, (ss.map Value.string)[i]? = some u → w.cell? ⟨b, off + i, none⟩ = some u) {k : Nat} (hk : k < ss.length) :
    w.cell? ⟨b, off + k, none⟩ = some (.string (ss[k]'hk)) := hc k _ (by simp [hk])

set_option maxHeartbeats 1600000 in
theorem bytes_any (w : World) (a b c d : Option Addr) (n cn m cm p cp q cq : Nat) (ks bs is : List Int) (ss : List ByteArray) (ha : IsInts w a n cn ks) (hb : IsInts w b m cm bs) (hc : IsInts w c p cp is) (hd : IsStrs w d q cq ss) :
    Calls Try.prog 7 #[.slice a n cn, .slice b m cm, .slice c p cp, .slice d q cq] w (SomeI w) := by
  obtain ⟨_, hlc, hcm, _, _, _⟩ := ha
  obtain ⟨_, hlc2, hcm2, _, _, _⟩ := hb
  obtain ⟨_, hlc3, hcm3, _, _, _⟩ := hc
  obtain ⟨hl, hlc4, hcm4, hn4, hs, hr⟩ := hd
  unfold maxLen at hcm hcm2 hcm3 hcm4
  clear hn4
  by_cases hbig : 1048576 < n ∨ 1048576 < m ∨ 1048576 < p ∨ 1048576 < q
  · clear hr hs
    by_cases h1 : 1048576 < n
    · go_enter Try.func7, Try.ntmps7
      go_wp2
      go_ret
      exact ⟨_, rfl, rfl⟩
    by_cases h2 : 1048576 < m
    · go_enter Try.func7, Try.ntmps7
      go_wp2
      go_ret
      exact ⟨_, rfl, rfl⟩
    by_cases h3 : 1048576 < p
    · go_enter Try.func7, Try.ntmps7
      go_wp2
      go_ret
      exact ⟨_, rfl, rfl⟩
    · have h4 : 1048576 < q := by omega
      go_enter Try.func7, Try.ntmps7
      go_wp2
      go_ret
      exact ⟨_, rfl, rfl⟩
  have h1 : ¬ 1048576 < n := by omega
  have h2 : ¬ 1048576 < m := by omega
  have h3 : ¬ 1048576 < p := by omega
  have h4 : ¬ 1048576 < q := by omega
  clear hbig
  go_enter Try.func7, Try.ntmps7
  go_wp2
  go_loop [9, 10] (fun t i => ∃ (k : Nat) (x : Int), k ≤ q ∧ i = .int .i64 k ∧ t = .int .i64 x ∧ 0 ≤ x ∧ x ≤ 100000000) (fun _ i => q - (intOf i).toNat)
  case atStart => exact ⟨0, 8 * n + 8 * m + 8 * p + 16 * q, Nat.zero_le _, rfl, by go_num, by omega, by omega⟩
  case round =>
    obtain ⟨k, x, hk, rfl, rfl, hx0, hx⟩ := hrel
    by_cases hlt : k < q
    · obtain ⟨b, off, rfl, hb, hc⟩ := hr.pos (by simp; omega)
      have hcell := str_at hc (k := k) (by omega)
      have h63 : (ss[k]'(by omega)).size ≤ 9223372036854775807 := hs _ (List.getElem_mem _)
      generalize (ss[k]'(by omega)) = s at *
      clear hc hr hs
      by_cases hx2 : 1048576 < x
      · go_wp2
        go_ret
        exact ⟨_, rfl, rfl⟩
      by_cases hs2 : 1048576 < s.size
      · go_wp2
        go_ret
        exact ⟨_, rfl, rfl⟩
      go_wp2
      go_round
      case rel => exact ⟨k + 1, x + s.size, by omega, by go_num, by go_num, by omega, by omega⟩
      case measure => simp [intOf]; omega
    · clear hr hs
      go_wp2
      go_ret
      exact ⟨_, rfl, rfl⟩

theorem Try.inf3 : (Try.prog.info? 3).map (fun i => (i.zero, i.size, i.bytes)) = some (some (.int .i64 0), 1, 8) := by kernel_rfl
theorem Try.inf9 : (Try.prog.info? 9).map (fun i => (i.zero, i.size, i.bytes)) = some (some (.string ⟨#[]⟩), 1, 16) := by kernel_rfl
theorem Try.inf38 : (Try.prog.info? 38).map (fun i => (i.zero, i.size, i.bytes)) = some (some (.agg #[.slice none 0 0, .int .i64 0, .int .i64 0, .int .i64 0]), 4, 48) := by kernel_rfl

theorem int_at {w : World} {b off : Nat} {zs : List Int} (hc : ∀ i u, (zs.map (Value.int .i64))[i]? = some u → w.cell? ⟨b, off + i, none⟩ = some u) {k : Nat} (hk : k < zs.length) :
    w.cell? ⟨b, off + k, none⟩ = some (.int .i64 (zs[k]'hk)) := hc k _ (by simp [hk])

theorem IsInts.below {w w' : World} {a : Option Addr} {len cap : Nat} {zs : List Int} (h : IsInts w a len cap zs) (hb : Below w.heap.size w w') : IsInts w' a len cap zs :=
  ⟨h.1, h.2.1, h.2.2.1, h.2.2.2.1, h.2.2.2.2.1, (h.2.2.2.2.2.below hb).mono hb.size⟩
theorem IsStrs.below {w w' : World} {a : Option Addr} {len cap : Nat} {zs : List ByteArray} (h : IsStrs w a len cap zs) (hb : Below w.heap.size w w') : IsStrs w' a len cap zs :=
  ⟨h.1, h.2.1, h.2.2.1, h.2.2.2.1, h.2.2.2.2.1, (h.2.2.2.2.2.below hb).mono hb.size⟩

set_option maxHeartbeats 1600000 in
theorem cloneI_any (w : World) (a : Option Addr) (len cap : Nat) (zs : List Int) (h : IsInts w a len cap zs) (hle : len ≤ 1048576) :
    Calls Try.prog 9 #[.slice a len cap] w fun e w' => ∃ a', e = .returned (.slice a' len len) ∧ IsInts w' a' len len zs ∧ Below w.heap.size w w' := by
  obtain ⟨hl, hlc, hcm, hn, hs, hr⟩ := h
  unfold maxLen at hcm
  have HS := Lib.hid hs
  clear hs
  have hnil := fun (W : World) (A : Option Addr) => Lib.run_eql_slice_nil (P := Try.prog) W 22 3 A len cap 0 0 Try.underlying22
  cases a with
  | none =>
    obtain rfl : cap = 0 := hn rfl
    obtain rfl : len = 0 := by omega
    obtain rfl : zs = [] := List.eq_nil_of_length_eq_zero hl
    clear hr hn
    go_enter Try.func9, Try.ntmps9
    go_wp2
    go_ret
    exact ⟨none, rfl, ⟨rfl, Nat.le_refl _, Nat.zero_le _, fun _ => rfl, by simp, .inl rfl⟩, Below.refl _ _⟩
  | some x =>
    clear hn
    obtain ⟨i0, hi, hz0, hz1, hz2⟩ := info_parts Try.inf3
    have hmk := fun W => run_make_n (P := Try.prog) 22 3 i0 _ Try.underlying22 hi hz0 .i64 .i64 len len (Nat.le_refl _) (by rw [hz2]; omega) (by omega) W
    rw [hz1, Nat.mul_one] at hmk
    generalize hZ : madeCells (Value.int .i64 0).cells len = Z at hmk
    have hZl : Z.toList.length = (zs.map (Value.int .i64)).length := by rw [← hZ]; simp [size_madeCells, hl]
    have HL := Lib.hid hl
    have HZ := Lib.hid hZl
    clear hZ hZl hi hz0 hz1 hz2 hl
    go_enter Try.func9, Try.ntmps9
    go_wp2
    go_loopw [4] (fun i wr => ∃ k : Nat, k ≤ len ∧ i = .int .i64 k ∧ Blk wr w.heap.size 3 (fillA (zs.map (Value.int .i64)) Z.toList k) ∧ Below w.heap.size w wr) (fun i _ => len - (intOf i).toNat)
    case atStart => exact ⟨0, Nat.zero_le _, rfl, by rw [fill_zero]; exact Blk.new _ _ _, (Below.refl _ _).alloc (Nat.le_refl _) _⟩
    case round =>
      obtain ⟨k, hk, rfl, hblk, hbel⟩ := hrel
      by_cases hlt : k < len
      · obtain ⟨b, off, hx, hb, hc⟩ := (hr.below hbel).pos (by simp [HL.out]; omega)
        obtain rfl := Option.some.inj hx
        have hcell := int_at hc (k := k) (by rw [HL.out]; exact hlt)
        obtain ⟨v, hv⟩ := fill_at hblk HZ.out (by simp [HL.out]; exact hlt)
        have hfz := hblk.free k
        have HB := Lib.hid hblk
        clear hc hr hblk
        go_wp2
        go_roundw
        case rel =>
          refine ⟨k + 1, by omega, by go_num, ?_, hbel.setCell (Nat.le_refl _) _⟩
          have h2 := HB.out.set k (.int .i64 (zs[k]'(by rw [HL.out]; exact hlt)))
          rw [fill_set' _ _ k _ HZ.out (by simp)] at h2
          exact h2
        case measure => simp [intOf]; omega
      · clear hr
        have hkl : k = len := by omega
        have HKL := Lib.hid hkl
        clear hkl
        go_wp2
        go_ret
        rw [fill_all _ _ k (by simp [HL.out]; omega) (by rw [HZ.out]; simp [HL.out]; omega)] at hblk
        have := hblk.rd wr.heap.size hblk.lt
        exact ⟨_, rfl, ⟨HL.out, Nat.le_refl _, by unfold maxLen; omega, (by intro h; cases h), HS.out, by simpa using this⟩, hbel⟩

set_option maxHeartbeats 1600000 in
theorem cloneS_any (w : World) (a : Option Addr) (len cap : Nat) (ss : List ByteArray) (h : IsStrs w a len cap ss) (hle : len ≤ 1048576) :
    Calls Try.prog 10 #[.slice a len cap] w fun e w' => ∃ a', e = .returned (.slice a' len len) ∧ IsStrs w' a' len len ss ∧ Below w.heap.size w w' := by
  obtain ⟨hl, hlc, hcm, hn, hs, hr⟩ := h
  unfold maxLen at hcm
  have HS := Lib.hid hs
  clear hs
  have hnil := fun (W : World) (A : Option Addr) => Lib.run_eql_slice_nil (P := Try.prog) W 23 9 A len cap 0 0 Try.underlying23
  cases a with
  | none =>
    obtain rfl : cap = 0 := hn rfl
    obtain rfl : len = 0 := by omega
    obtain rfl : ss = [] := List.eq_nil_of_length_eq_zero hl
    clear hr hn
    go_enter Try.func10, Try.ntmps10
    go_wp2
    go_ret
    exact ⟨none, rfl, ⟨rfl, Nat.le_refl _, Nat.zero_le _, fun _ => rfl, by simp, .inl rfl⟩, Below.refl _ _⟩
  | some x =>
    clear hn
    obtain ⟨i0, hi, hz0, hz1, hz2⟩ := info_parts Try.inf9
    have hmk := fun W => run_make_n (P := Try.prog) 23 9 i0 _ Try.underlying23 hi hz0 .i64 .i64 len len (Nat.le_refl _) (by rw [hz2]; omega) (by omega) W
    rw [hz1, Nat.mul_one] at hmk
    generalize hZ : madeCells (Value.string ⟨#[]⟩).cells len = Z at hmk
    have hZl : Z.toList.length = (ss.map Value.string).length := by rw [← hZ]; simp [size_madeCells, hl]
    have HL := Lib.hid hl
    have HZ := Lib.hid hZl
    clear hZ hZl hi hz0 hz1 hz2 hl
    go_enter Try.func10, Try.ntmps10
    go_wp2
    go_loopw [4] (fun i wr => ∃ k : Nat, k ≤ len ∧ i = .int .i64 k ∧ Blk wr w.heap.size 9 (fillA (ss.map Value.string) Z.toList k) ∧ Below w.heap.size w wr) (fun i _ => len - (intOf i).toNat)
    case atStart => exact ⟨0, Nat.zero_le _, rfl, by rw [fill_zero]; exact Blk.new _ _ _, (Below.refl _ _).alloc (Nat.le_refl _) _⟩
    case round =>
      obtain ⟨k, hk, rfl, hblk, hbel⟩ := hrel
      by_cases hlt : k < len
      · obtain ⟨b, off, hx, hb, hc⟩ := (hr.below hbel).pos (by simp [HL.out]; omega)
        obtain rfl := Option.some.inj hx
        have hcell := str_at hc (k := k) (by rw [HL.out]; exact hlt)
        obtain ⟨v, hv⟩ := fill_at hblk HZ.out (by simp [HL.out]; exact hlt)
        have hfz := hblk.free k
        have HB := Lib.hid hblk
        clear hc hr hblk
        go_wp2
        go_roundw
        case rel =>
          refine ⟨k + 1, by omega, by go_num, ?_, hbel.setCell (Nat.le_refl _) _⟩
          have h2 := HB.out.set k (.string (ss[k]'(by rw [HL.out]; exact hlt)))
          rw [fill_set' _ _ k _ HZ.out (by simp)] at h2
          exact h2
        case measure => simp [intOf]; omega
      · clear hr
        have hkl : k = len := by omega
        have HKL := Lib.hid hkl
        clear hkl
        go_wp2
        go_ret
        rw [fill_all _ _ k (by simp [HL.out]; omega) (by rw [HZ.out]; simp [HL.out]; omega)] at hblk
        have := hblk.rd wr.heap.size hblk.lt
        exact ⟨_, rfl, ⟨HL.out, Nat.le_refl _, by unfold maxLen; omega, (by intro h; cases h), HS.out, by simpa using this⟩, hbel⟩
end Go.Proofs.Ytkeiaonpgcbciaa
