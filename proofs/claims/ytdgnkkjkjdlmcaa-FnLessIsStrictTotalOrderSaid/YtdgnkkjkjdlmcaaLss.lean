/- Contracts of Less and zzLessStr, and the walk of FnLessMatchesByteOrder. -/
import Derived.Test.YtdgnkkjkjdlmcaaSrt
import Derived.Test.YtdgnkkjkjdlmcaaPl
namespace Go.Proofs.Ytdgnkkjkjdlmcaa
open Go.RowKit
set_option linter.unusedVariables false

theorem blk_str {w : World} {g : Nat} {ss : List ByteArray} (h : Blk w g 46 (ss.map Value.string).toArray) {k : Nat} {x : ByteArray} (hk : ss[k]? = some x) : w.cell? ⟨g, k, none⟩ = some (.string x) := by
  rw [h.cell]
  simp [hk]

theorem less_any (w : World) (g n : Nat) (ss : List ByteArray) (i j : Nat) (x y : ByteArray) (h : Blk w g 46 (ss.map Value.string).toArray) (hi : i < n) (hj : j < n) (hle : n ≤ 65536) (hx : ss[i]? = some x) (hy : ss[j]? = some y) :
    Calls Try.prog 38 #[.slice (some ⟨g, 0, none⟩) n n, .int .i64 i, .int .i64 j] w fun e w' => e = .returned (.bool (ltS x y)) ∧ ∃ m, w' = w.drewN m := by
  have c1 := blk_str h hx
  have c2 := blk_str h hy
  unfold ltS
  clear h hx hy
  go_enter Try.func38, Try.ntmps38
  go_wp2
  go_quiet (fail)
  go_wp2
  go_ret
  exact ⟨rfl, _, rfl⟩

theorem zless_any (w : World) (g n : Nat) (ss : List ByteArray) (i j : Nat) (x y : ByteArray) (h : Blk w g 46 (ss.map Value.string).toArray) (hi : i < n) (hj : j < n) (hle : n ≤ 65536) (hx : ss[i]? = some x) (hy : ss[j]? = some y) :
    Calls Try.prog 16 #[.slice (some ⟨g, 0, none⟩) n n, .int .i64 i, .int .i64 j] w fun e w' => e = .returned (.bool (ltS x y)) ∧ ∃ m, w' = w.drewN m := by
  have C := Lib.hid (less_any w g n ss i j x y h hi hj hle hx hy)
  clear h hx hy
  go_enter Try.func16, Try.ntmps16
  go_wp2_with fail
  refine C.out.mono ?_
  rintro e w1 ⟨rfl, m, rfl⟩
  go_wp2_with fail
  go_ret
  exact ⟨rfl, _, rfl⟩

def LessRel (s t : ByteArray) (N : Nat) (w : World) (i : Value) (wr : World) : Prop :=
  ∃ k m : Nat, k ≤ N ∧ i = .int .i64 k ∧ ltS s t = ltD s t k ∧ wr = w.drewN m

set_option maxHeartbeats 800000 in
theorem lessStr_any (w : World) (s t : ByteArray) (hs : s.size ≤ maxLen) (ht : t.size ≤ maxLen) :
    Calls Try.prog 17 #[.string s, .string t] w fun e w' => e = .returned (.bool (ltS s t)) ∧ ∃ m, w' = w.drewN m := by
  unfold maxLen at hs ht
  by_cases hlt : t.size < s.size
  · go_enter Try.func17, Try.ntmps17
    go_wp2
    go_loopw [6] (fun i wr => LessRel s t t.size w i wr) (fun i _ => t.size - (intOf i).toNat)
    case atStart => exact ⟨0, 0, Nat.zero_le _, rfl, ltS_zero s t, rfl⟩
    case round =>
      obtain ⟨k, m, hk, rfl, hE, rfl⟩ := hrel
      have E := Lib.hid hE
      clear hE
      by_cases hkl : k < t.size
      · have k1 : k < s.size := by omega
        have k2 : k < t.size := by omega
        by_cases hb : s[k].toNat = t[k].toNat
        · have E2 := Lib.hid (ltD_eq s t k k1 k2 hb)
          have hne : ((s[k].toNat : Int) != t[k].toNat) = false := by simp [hb]
          clear hb
          go_wp2
          go_quiet (fail)
          go_wp2
          go_roundw
          case rel => exact ⟨k + 1, _, by omega, by go_num, E.out.trans E2.out, by first | rfl | (simp only [World.drewN_drewN]; rfl)⟩
          case measure => simp [intOf]; omega
        · have E2 := Lib.hid (ltD_ne s t k k1 k2 hb)
          have hne : ((s[k].toNat : Int) != t[k].toNat) = true := by simp; omega
          clear hb
          go_wp2
          go_quiet (fail)
          go_wp2
          go_quiet (fail)
          go_wp2
          go_ret
          exact ⟨by rw [E.out, E2.out]; rfl, _, by first | rfl | (simp only [World.drewN_drewN]; rfl)⟩
      · have E2 := Lib.hid (ltD_end s t k (by omega) (by omega) (by omega))
        go_wp2
        go_ret
        exact ⟨by rw [E.out, E2.out]; rfl, _, by first | rfl | (simp only [World.drewN_drewN]; rfl)⟩
  · go_enter Try.func17, Try.ntmps17
    go_wp2
    go_loopw [6] (fun i wr => LessRel s t s.size w i wr) (fun i _ => s.size - (intOf i).toNat)
    case atStart => exact ⟨0, 0, Nat.zero_le _, rfl, ltS_zero s t, rfl⟩
    case round =>
      obtain ⟨k, m, hk, rfl, hE, rfl⟩ := hrel
      have E := Lib.hid hE
      clear hE
      by_cases hkl : k < s.size
      · have k1 : k < s.size := by omega
        have k2 : k < t.size := by omega
        by_cases hb : s[k].toNat = t[k].toNat
        · have E2 := Lib.hid (ltD_eq s t k k1 k2 hb)
          have hne : ((s[k].toNat : Int) != t[k].toNat) = false := by simp [hb]
          clear hb
          go_wp2
          go_quiet (fail)
          go_wp2
          go_roundw
          case rel => exact ⟨k + 1, _, by omega, by go_num, E.out.trans E2.out, by first | rfl | (simp only [World.drewN_drewN]; rfl)⟩
          case measure => simp [intOf]; omega
        · have E2 := Lib.hid (ltD_ne s t k k1 k2 hb)
          have hne : ((s[k].toNat : Int) != t[k].toNat) = true := by simp; omega
          clear hb
          go_wp2
          go_quiet (fail)
          go_wp2
          go_quiet (fail)
          go_wp2
          go_ret
          exact ⟨by rw [E.out, E2.out]; rfl, _, by first | rfl | (simp only [World.drewN_drewN]; rfl)⟩
      · have E2 := Lib.hid (ltD_end s t k (by omega) (by omega) (by omega))
        go_wp2
        go_ret
        exact ⟨by rw [E.out, E2.out]; rfl, _, by first | rfl | (simp only [World.drewN_drewN]; rfl)⟩

theorem quiet_from {P : Program} {f : FuncId} {args : Array Value} {w : World} {v : Value} {n : Nat} (h : ∀ W : World, (∃ q, W = w.drewN q) → Calls P f args W fun e w' => e = .returned v ∧ ∃ m, w' = W.drewN m) :
    Calls P f args (w.drewN n) fun e w'' => e = .returned v ∧ ∃ m, w'' = w.drewN m :=
  (h _ ⟨n, rfl⟩).mono fun _ _ ⟨he, m, hm⟩ => ⟨he, n + m, by rw [hm, World.drewN_drewN]⟩

set_option maxHeartbeats 800000 in
theorem lessLaw (w : World) (a : Option Addr) (len cap : Nat) (ss : List ByteArray) (i j : Int) (h : IsStrs w a len cap ss) :
    Calls Try.prog 4 #[.slice a len cap, .int .i64 i, .int .i64 j] w fun e w' => e = .returned (.bool true) ∧ Below w.heap.size w w' := by
  have h' := h
  obtain ⟨hl, hlc, hcm, hn, hs, hr⟩ := h'
  unfold maxLen at hcm
  have HL := Lib.hid hl
  have HS := Lib.hid hs
  have H := Lib.hid h
  have HR := Lib.hid hr
  clear hl hn hs hr h
  go_enter Try.func4, Try.ntmps4
  go_wp2_with fail
  refine (guard13 _ _ _ _ _ _ _ H.out).mono ?_
  rintro e w1 ⟨b, rfl, rfl⟩
  cases b
  · go_wp2_with fail
    go_ret
    exact ⟨rfl, Below.refl _ _⟩
  by_cases h1 : 65536 < len
  · go_wp2_with fail
    go_ret
    exact ⟨rfl, Below.refl _ _⟩
  go_wp2_with fail
  refine (bytes_any _ _ _ _ _ H.out).mono ?_
  rintro e w1 ⟨n, rfl, rfl⟩
  by_cases h2 : 1048576 < n
  · go_wp2_with fail
    go_ret
    exact ⟨rfl, Below.refl _ _⟩
  by_cases h3 : 0 ≤ i ∧ 0 ≤ j ∧ i < len ∧ j < len
  · obtain ⟨h3, h4, h5, h6⟩ := h3
    obtain ⟨i, rfl⟩ := Int.eq_ofNat_of_zero_le h3
    obtain ⟨j, rfl⟩ := Int.eq_ofNat_of_zero_le h4
    go_wp2_with fail
    refine (idents_any _ _ _ _ _ H.out (by omega)).mono ?_
    rintro e w1 ⟨rfl, hblk, hbel⟩
    obtain ⟨x, hx⟩ : ∃ x, ss[i]? = some x := ⟨ss[i]'(by rw [HL.out]; omega), by simp⟩
    obtain ⟨y, hy⟩ : ∃ y, ss[j]? = some y := ⟨ss[j]'(by rw [HL.out]; omega), by simp⟩
    have sx : x.size ≤ maxLen := HS.out x (List.mem_of_getElem? hx)
    have sy : y.size ≤ maxLen := HS.out y (List.mem_of_getElem? hy)
    obtain ⟨b, off, rfl, hb, hc⟩ := (HR.out.below hbel).pos (by simp [HL.out]; omega)
    have cx := hc i (.string x) (by simp [hx])
    have cy := hc j (.string y) (by simp [hy])
    have K1 : ∀ n, Calls Try.prog 16 #[.slice (some ⟨w.heap.size, 0, none⟩) len len, .int .i64 i, .int .i64 j] (w1.drewN n) fun e w'' => e = .returned (.bool (ltS x y)) ∧ ∃ m, w'' = w1.drewN m := fun n => quiet_from (fun W hW => by obtain ⟨q, rfl⟩ := hW; exact zless_any _ _ _ ss i j x y hblk (by omega) (by omega) (by omega) hx hy)
    have K2 : ∀ n, Calls Try.prog 17 #[.string x, .string y] (w1.drewN n) fun e w'' => e = .returned (.bool (ltS x y)) ∧ ∃ m, w'' = w1.drewN m := fun n => quiet_from (fun W hW => lessStr_any W x y sx sy)
    have Q1 := Lib.hid K1
    have Q2 := Lib.hid K2
    clear K1 K2 hc hx hy hblk sx sy
    go_wp2_with fail
    go_quiet ((first | (go_at_call 16; exact Q1.out _) | (go_at_call 17; exact Q2.out _)))
    go_wp2_with fail
    go_ret
    exact ⟨by simp, below_drewN hbel _⟩
  · go_wp2_with fail
    all_goals (go_ret; exact ⟨rfl, Below.refl _ _⟩)
end Go.Proofs.Ytdgnkkjkjdlmcaa
