/- The binds: five shapes, and isGoodLocal over a row of them. -/
import Derived.Test.YtbiiljiincdkcaaArgs
import Derived.OwnWalk
import Derived.Lib.BufferOwn
namespace Go.Proofs.Ytbiiljiincdkcaa
open Go.RowKit
set_option linter.unusedVariables false

/-- The twelve cells of a bind, by its body and its function. -/
structure Bd where
  body : Value
  fn : Value
def Bd.cells (b : Bd) : List Value := [.slice none 0 0, b.body, .slice none 0 0, .string ⟨#[]⟩, .slice none 0 0, b.fn, .pointer none, .string ⟨#[]⟩, .int .i64 0, .int .i64 0, .int .i64 0, .int .i64 0]
def cellsB (bs : List Bd) : List Value := bs.flatMap Bd.cells

/-- A bind is good, or it is one of the others. -/
def Bd.Is (b : Bd) (good : Bool) : Prop :=
  match good with
  | true => b.fn = .pointer none ∧ ∃ p, b.body = .iface 58 (.pointer (some p))
  | false => (∃ p q, b.fn = .pointer (some p) ∧ b.body = .iface 58 (.pointer (some q))) ∨ (b.fn = .pointer none ∧ ((∃ p, b.body = .iface 62 (.pointer (some p))) ∨ (∃ p, b.body = .iface 70 (.pointer (some p))) ∨ b.body = .nilIface))

def MadeB (w : World) (good : Bool) (e : Ending) (w' : World) : Prop := ∃ b : Bd, e = .returned (.agg b.cells.toArray) ∧ b.Is good ∧ Below w.heap.size w w'

theorem mk0 (w : World) : Calls Try.prog 16 #[.int .i64 0] w (MadeB w true) := by
  go_enter Try.func16, Try.ntmps16
  go_wp2_with (first | (go_at_call 19; go_in) | fail)
  exact bodyPost_ret (v := .agg (Bd.cells ⟨_, _⟩).toArray) (by simp [results, Try.results16, go_sem, Bd.cells]; first | exact ⟨rfl, rfl⟩ | exact rfl) rfl ⟨⟨_, _⟩, rfl, ⟨rfl, _, rfl⟩, by go_grown⟩
theorem mk1 (w : World) : Calls Try.prog 16 #[.int .i64 1] w (MadeB w false) := by
  go_enter Try.func16, Try.ntmps16
  go_wp2_with (first | (go_at_call 20; go_in) | fail)
  exact bodyPost_ret (v := .agg (Bd.cells ⟨_, _⟩).toArray) (by simp [results, Try.results16, go_sem, Bd.cells]; first | exact ⟨rfl, rfl⟩ | exact rfl) rfl ⟨⟨_, _⟩, rfl, .inl ⟨_, _, rfl, rfl⟩, by go_grown⟩
theorem mk2 (w : World) : Calls Try.prog 16 #[.int .i64 2] w (MadeB w false) := by
  go_enter Try.func16, Try.ntmps16
  go_wp2_with (first | (go_at_call 21; go_in) | fail)
  exact bodyPost_ret (v := .agg (Bd.cells ⟨_, _⟩).toArray) (by simp [results, Try.results16, go_sem, Bd.cells]; first | exact ⟨rfl, rfl⟩ | exact rfl) rfl ⟨⟨_, _⟩, rfl, .inr ⟨rfl, .inl ⟨_, rfl⟩⟩, by go_grown⟩
theorem mk3 (w : World) : Calls Try.prog 16 #[.int .i64 3] w (MadeB w false) := by
  go_enter Try.func16, Try.ntmps16
  go_wp2_with (first | (go_at_call 22; go_in) | fail)
  exact bodyPost_ret (v := .agg (Bd.cells ⟨_, _⟩).toArray) (by simp [results, Try.results16, go_sem, Bd.cells]; first | exact ⟨rfl, rfl⟩ | exact rfl) rfl ⟨⟨_, _⟩, rfl, .inr ⟨rfl, .inr (.inl ⟨_, rfl⟩)⟩, by go_grown⟩
theorem mk4 (w : World) : Calls Try.prog 16 #[.int .i64 4] w (MadeB w false) := by
  go_enter Try.func16, Try.ntmps16
  go_wp2_with (first | (go_at_call 23; go_in) | fail)
  exact bodyPost_ret (v := .agg (Bd.cells ⟨_, _⟩).toArray) (by simp [results, Try.results16, go_sem, Bd.cells]) rfl ⟨⟨_, _⟩, rfl, .inr ⟨rfl, .inr (.inr rfl)⟩, by go_grown⟩

/-- makeBind at every code. -/
theorem mk_any (w : World) (c : Int) (h0 : 0 ≤ c) (h4 : c ≤ 4) : Calls Try.prog 16 #[.int .i64 c] w (MadeB w (c == 0)) := by
  have h : c = 0 ∨ c = 1 ∨ c = 2 ∨ c = 3 ∨ c = 4 := by omega
  rcases h with rfl | rfl | rfl | rfl | rfl
  · exact mk0 w
  · exact mk1 w
  · exact mk2 w
  · exact mk3 w
  · exact mk4 w

def codeI (x : Int) : Int := if x.tmod 5 < 0 then x.tmod 5 + 5 else x.tmod 5
def goodC (x : Int) : Bool := codeI x == 0
theorem code_rng (x : Int) : 0 ≤ codeI x ∧ codeI x ≤ 4 := by
  have b1 := Int.tmod_lt_of_pos x (show (0 : Int) < 5 by decide)
  have b2 := Int.lt_tmod_of_pos x (show (0 : Int) < 5 by decide)
  unfold codeI
  split <;> omega
theorem code_any (w : World) (x : Int) : Calls Try.prog 15 #[.int .i64 x] w fun e w' => e = .returned (.int .i64 (codeI x)) ∧ w = w' := by
  have b1 := Int.tmod_lt_of_pos x (show (0 : Int) < 5 by decide)
  have b2 := Int.lt_tmod_of_pos x (show (0 : Int) < 5 by decide)
  by_cases h0 : x.tmod 5 < 0
  · have E : Hid (codeI x = x.tmod 5 + 5) := by simp [Hid, codeI, h0]
    go_enter Try.func15, Try.ntmps15
    go_wp2
    go_ret
    exact ⟨by rw [E.out]; rfl, rfl⟩
  · have E : Hid (codeI x = x.tmod 5) := by simp [Hid, codeI, h0]
    go_enter Try.func15, Try.ntmps15
    go_wp2
    go_ret
    exact ⟨by rw [E.out]; rfl, rfl⟩

/-! ### rows of binds -/

theorem Bd.len (b : Bd) : b.cells.length = 12 := rfl
theorem cellsB_cons (e : Bd) (es : List Bd) : cellsB (e :: es) = e.cells ++ cellsB es := rfl
theorem cellsB_append (a b : List Bd) : cellsB (a ++ b) = cellsB a ++ cellsB b := by simp [cellsB]
theorem cellsB_len (es : List Bd) : (cellsB es).length = es.length * 12 := by
  induction es with
  | nil => rfl
  | cons e es ih => rw [cellsB_cons, List.length_append, ih, Bd.len, List.length_cons]; omega
theorem cellsB_at (es : List Bd) : ∀ (i j : Nat) (e : Bd), es[i]? = some e → j < 12 → (cellsB es)[i * 12 + j]? = e.cells[j]? := by
  induction es with
  | nil => intro i j e h; simp at h
  | cons x es ih =>
    intro i j e h hj
    rw [cellsB_cons]
    cases i with
    | zero =>
      simp only [List.getElem?_cons_zero, Option.some.injEq] at h
      subst h
      rw [List.getElem?_append_left (by rw [Bd.len]; omega)]
      simp
    | succ i =>
      simp only [List.getElem?_cons_succ] at h
      rw [List.getElem?_append_right (by rw [Bd.len]; omega), Bd.len, ← ih i j e h hj]
      congr 1
      omega

/-- The twelve cells of bind k. -/
def Cells12 (w : World) (b o : Nat) (e : Bd) : Prop := ∀ j u, e.cells[j]? = some u → w.cell? ⟨b, o + j, none⟩ = some u
theorem bind_at {w : World} {B : Nat} {a : Option Addr} {es : List Bd} (h : Rd w B a (cellsB es)) {k : Nat} {e : Bd} (he : es[k]? = some e) :
    ∃ b off, a = some ⟨b, off, none⟩ ∧ b < B ∧ Cells12 w b (off + k * 12) e := by
  have hk : k < es.length := (List.getElem?_eq_some_iff.1 he).1
  obtain ⟨b, off, ha, hb, hc⟩ := h.pos (by rw [cellsB_len]; omega)
  refine ⟨b, off, ha, hb, fun j u hu => ?_⟩
  rw [Nat.add_assoc]
  refine hc _ _ ?_
  have hj : j < 12 := by
    have := (List.getElem?_eq_some_iff.1 hu).1
    rw [Bd.len] at this
    exact this
  rw [cellsB_at es k j e he hj]
  exact hu

/-- A local whose binds are good as gs tells. -/
def Loc (w : World) (L : Nat) (gs : List Bool) : Prop := ∃ (A : Option Addr) (c : Nat) (bs : List Bd), w.cell? ⟨L, 0, none⟩ = some (.slice A gs.length c) ∧ L < w.heap.size ∧ Rd w w.heap.size A (cellsB bs) ∧ gs.length ≤ 131072 ∧ bs.length = gs.length ∧ ∀ (i : Nat) (b : Bd) (g : Bool), bs[i]? = some b → gs[i]? = some g → b.Is g
theorem Loc.below {w w' : World} {L : Nat} {gs : List Bool} (h : Loc w L gs) (hb : Below w.heap.size w w') : Loc w' L gs := by
  obtain ⟨A, c, bs, h1, h2, h3, h4, h5, h6⟩ := h
  exact ⟨A, c, bs, by rw [hb.cell (p := ⟨L, 0, none⟩) h2]; exact h1, Nat.lt_of_lt_of_le h2 hb.size, (h3.below hb).mono hb.size, h4, h5, h6⟩

@[go_sem] theorem ta58 (p : Option Addr) (w : World) : (Instr.typeAssert (.iface 58 (.pointer p)) 32 58 true).run Try.prog w = .ok (.tuple #[.pointer p, .bool true]) w := by kernel_rfl
@[go_sem] theorem ta62 (p : Option Addr) (w : World) : (Instr.typeAssert (.iface 62 (.pointer p)) 32 58 true).run Try.prog w = .ok (.tuple #[.pointer none, .bool false]) w := by kernel_rfl
@[go_sem] theorem ta70 (p : Option Addr) (w : World) : (Instr.typeAssert (.iface 70 (.pointer p)) 32 58 true).run Try.prog w = .ok (.tuple #[.pointer none, .bool false]) w := by kernel_rfl
@[go_sem] theorem tan (w : World) : (Instr.typeAssert .nilIface 32 58 true).run Try.prog w = .ok (.tuple #[.pointer none, .bool false]) w := by kernel_rfl

def allG (gs : List Bool) (k : Nat) : Bool := (gs.take k).all id
theorem allG_succ (gs : List Bool) (k : Nat) (g : Bool) (h : gs[k]? = some g) : allG gs (k + 1) = (allG gs k && g) := by
  unfold allG
  rw [List.take_add_one, h]
  simp
theorem allG_bad (gs : List Bool) (k : Nat) (h : gs[k]? = some false) : gs.all id = false := by
  simp only [List.all_eq_false, id]
  exact ⟨false, List.mem_of_getElem? h, by simp⟩

set_option maxRecDepth 100000 in
set_option maxHeartbeats 1600000 in
theorem good_any (w : World) (L : Nat) (gs : List Bool) (h : Loc w L gs) :
    Calls Try.prog 17 #[.pointer (some ⟨L, 0, none⟩)] w fun e w' => e = .returned (.bool (gs.all id)) ∧ Below w.heap.size w w' := by
  obtain ⟨A, c, bs, h1, h2, h3, h4, h5, h6⟩ := h
  generalize hn : gs.length = n at *
  have HN := Lib.hid hn
  have H3 := Lib.hid h3
  have H5 := Lib.hid h5
  have H6 := Lib.hid h6
  clear hn h3 h5 h6
  go_enter Try.func17, Try.ntmps17
  go_wp2_with fail
  go_loopw [12] (fun i wr => ∃ k : Nat, k ≤ n ∧ i = .int .i64 k ∧ Hid (allG gs k = true) ∧ Below w.heap.size w wr) (fun i _ => n - (intOf i).toNat)
  case atStart => exact ⟨0, Nat.zero_le _, rfl, Lib.hid rfl, Below.refl _ _⟩
  case round =>
    obtain ⟨k, hk, rfl, hall, hbel⟩ := hrel
    by_cases hlt : k < n
    · obtain ⟨g, hg⟩ : ∃ g, gs[k]? = some g := ⟨gs[k]'(by rw [HN.out]; omega), by simp⟩
      obtain ⟨b, hb⟩ : ∃ b, bs[k]? = some b := ⟨bs[k]'(by rw [H5.out]; omega), by simp⟩
      have his := H6.out k b g hb hg
      obtain ⟨bb, off, rfl, hbb, hc⟩ := bind_at (H3.out.below hbel) hb
      obtain ⟨body, fn⟩ := b
      have x0 := hc 0 _ rfl
      simp only [Nat.add_zero] at x0
      have x1 := hc 1 _ rfl
      have x2 := hc 2 _ rfl
      have x3 := hc 3 _ rfl
      have x4 := hc 4 _ rfl
      have x5 := hc 5 _ rfl
      have x6 := hc 6 _ rfl
      have x7 := hc 7 _ rfl
      have x8 := hc 8 _ rfl
      have x9 := hc 9 _ rfl
      have x10 := hc 10 _ rfl
      have x11 := hc 11 _ rfl
      have HG := Lib.hid hg
      clear hc hb hg
      cases g
      · have HF := Lib.hid (allG_bad gs k HG.out)
        rcases his with ⟨p, q, h1, h2⟩ | ⟨h1, ⟨p, h2⟩ | ⟨p, h2⟩ | h2⟩
        all_goals
          simp only at h1 h2
          subst h1 h2
          go_wp2_with fail
          go_ret
          exact ⟨ret_bool HF.out.symm, hbel.alloc hbel.size _⟩
      · obtain ⟨h1, p, h2⟩ := his
        simp only at h1 h2
        subst h1 h2
        go_wp2_with fail
        go_roundw
        case rel => exact ⟨k + 1, by omega, by go_num, Lib.hid (by rw [allG_succ gs k true HG.out, hall.out]; rfl), hbel.alloc hbel.size _⟩
        case measure => simp [intOf]; omega
    · have hkn : k = n := by omega
      subst hkn
      have HF := Lib.hid (show gs.all id = true by have := hall.out; unfold allG at this; rwa [List.take_of_length_le (by rw [HN.out]; omega)] at this)
      go_wp2_with fail
      go_ret
      exact ⟨ret_bool HF.out.symm, hbel⟩
end Go.Proofs.Ytbiiljiincdkcaa
