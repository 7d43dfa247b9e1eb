/- The main case of FnLocationRangeBetweenCoversAndAbsorbs: the walk from the two tests on. -/
import Derived.Test.YtglamlgmeknkhaaRng
namespace Go.Proofs.Ytglamlgmeknkhaa
open Go.RowKit

theorem HoldsRange.below {w w' : World} {x : Nat} {F : Option Addr} {s : ByteArray} {a b c d : Int} (h : HoldsRange w x F s a b c d) (hb : Below w.heap.size w w') : HoldsRange w' x F s a b c d := by
  obtain ⟨h0, h1, h2, h3, h4, h5⟩ := h
  have l : x < w.heap.size := World.block_lt_of_cell? w _ h0
  exact ⟨(hb.cell l).trans h0, (hb.cell l).trans h1, (hb.cell l).trans h2, (hb.cell l).trans h3, (hb.cell l).trans h4, (hb.cell l).trans h5⟩

theorem HoldsRange.alloc {w : World} {x : Nat} {F : Option Addr} {s : ByteArray} {a b c d : Int} (h : HoldsRange w x F s a b c d) (o : Obj) : HoldsRange (w.alloc o) x F s a b c d :=
  h.below ((Below.refl _ _).alloc (Nat.le_refl _) _)

theorem HoldsRange.new (w : World) (F : Option Addr) (s : ByteArray) (a b c d : Int) : HoldsRange (w.alloc (.cells #[.pointer F, .string s, .int .i64 a, .int .i64 b, .int .i64 c, .int .i64 d] 31)) w.heap.size F s a b c d := by
  simp [HoldsRange, go_sem]

def Three (F : Option Addr) (s t : ByteArray) (a b c d e f g h : Int) (xa xb xr : Nat) (w : World) : Prop :=
  HoldsRange w xa F s a b c d ∧ HoldsRange w xb F t e f g h ∧ HoldsRange w xr F s a b g h

theorem Three.below {F : Option Addr} {s t : ByteArray} {a b c d e f g h : Int} {xa xb xr : Nat} {w w' : World} (H : Three F s t a b c d e f g h xa xb xr w) (hb : Below w.heap.size w w') : Three F s t a b c d e f g h xa xb xr w' :=
  ⟨H.1.below hb, H.2.1.below hb, H.2.2.below hb⟩
theorem Three.alloc {F : Option Addr} {s t : ByteArray} {a b c d e f g h : Int} {xa xb xr : Nat} {w : World} (H : Three F s t a b c d e f g h xa xb xr w) (o : Obj) : Three F s t a b c d e f g h xa xb xr (w.alloc o) :=
  ⟨H.1.alloc o, H.2.1.alloc o, H.2.2.alloc o⟩

theorem bel_up {B : Nat} {w0 w w' : World} (h : Below B w0 w) (k : Below w.heap.size w w') (hB : B ≤ w.heap.size) : Below B w0 w' := h.trans (k.mono hB)


theorem same0 (w : World) (s : ByteArray) (a b c d : Int) :
    Calls Try.prog 16 #[.agg #[.pointer none, .string s, .int .i64 a, .int .i64 b, .int .i64 c, .int .i64 d], .agg #[.pointer none, .string s, .int .i64 a, .int .i64 b, .int .i64 c, .int .i64 d]] w fun z w' => z = .returned (.bool true) ∧ Below w.heap.size w w' := same_any w none s a b c d
theorem same1 (k : Nat) (w : World) (s : ByteArray) (a b c d : Int) :
    Calls Try.prog 16 #[.agg #[.pointer (some ⟨k, 0, none⟩), .string s, .int .i64 a, .int .i64 b, .int .i64 c, .int .i64 d], .agg #[.pointer (some ⟨k, 0, none⟩), .string s, .int .i64 a, .int .i64 b, .int .i64 c, .int .i64 d]] w fun z w' => z = .returned (.bool true) ∧ Below w.heap.size w w' := same_any w (some k) s a b c d

theorem between0 (w : World) (x y : Nat) (s t : ByteArray) (a b c d e f g h : Int) (hx : HoldsRange w x none s a b c d) (hy : HoldsRange w y none t e f g h) :
    Calls Try.prog 15 #[.pointer (some ⟨x, 0, none⟩), .pointer (some ⟨y, 0, none⟩)] w fun z w' => z = .returned (.agg #[.pointer none, .string s, .int .i64 a, .int .i64 b, .int .i64 g, .int .i64 h]) ∧ Below w.heap.size w w' := between_any w x y none s t a b c d e f g h hx hy
theorem between1 (k : Nat) (w : World) (x y : Nat) (s t : ByteArray) (a b c d e f g h : Int) (hx : HoldsRange w x (some ⟨k, 0, none⟩) s a b c d) (hy : HoldsRange w y (some ⟨k, 0, none⟩) t e f g h) :
    Calls Try.prog 15 #[.pointer (some ⟨x, 0, none⟩), .pointer (some ⟨y, 0, none⟩)] w fun z w' => z = .returned (.agg #[.pointer (some ⟨k, 0, none⟩), .string s, .int .i64 a, .int .i64 b, .int .i64 g, .int .i64 h]) ∧ Below w.heap.size w w' := between_any w x y (some k) s t a b c d e f g h hx hy

theorem bel_new {B : Nat} {w0 w w' : World} {o : Obj} (h : Below B w0 w) (k : Below (w.alloc o).heap.size (w.alloc o) w') (hB : B ≤ w.heap.size) : Below B w0 w' ∧ B ≤ w'.heap.size := by
  have e : (w.alloc o).heap.size = w.heap.size + 1 := by simp
  refine ⟨(h.alloc hB o).trans (k.mono (by omega)), ?_⟩
  have := k.size
  omega
theorem bel_old {B : Nat} {w0 w w' : World} (h : Below B w0 w) (k : Below w.heap.size w w') (hB : B ≤ w.heap.size) : Below B w0 w' ∧ B ≤ w'.heap.size :=
  ⟨h.trans (k.mono hB), Nat.le_trans hB k.size⟩
theorem size1 (w : World) (o : Obj) : (w.alloc o).heap.size = w.heap.size + 1 := by simp

set_option maxRecDepth 100000 in
set_option maxHeartbeats 2000000 in
theorem bet_main0 (s t : ByteArray) (a b c d e f g h : Int) (w : World) (h0 : s.size ≤ 1048576) (h1 : t.size ≤ 1048576) (h2 : s.size + t.size ≤ 1048576) (hl : lexB e f a b = false) (hm : lexB g h c d = false) :
    Calls Try.prog 6 #[.bool false, .string s, .string t, .int .i64 a, .int .i64 b, .int .i64 c, .int .i64 d, .int .i64 e, .int .i64 f, .int .i64 g, .int .i64 h] w fun e w' => e = .returned (.bool true) ∧ Below w.heap.size w w' := by
  have q0 : lexB a b a b = false := by simp [lexB]
  have q1 : lexB g h g h = false := by simp [lexB]
  go_enter Try.func6, Try.ntmps6
  go_wp2_with (first | (go_at_call 14; go_in) | fail)
  refine (lex_bel e f a b w).mono ?_
  rintro z w1 ⟨rfl, g1⟩
  go_wp2_with fail
  refine (lex_bel g h c d w1).mono ?_
  rintro z w2 ⟨rfl, g2⟩
  obtain ⟨g3, z3⟩ := bel_old g1 g2 g1.size
  clear g1 g2
  go_wp2_with (first | (go_at_call 11; go_in) | fail)
  refine (between0 _ _ _ s t a b c d e f g h ?_ ?_).mono ?_
  · simp [HoldsRange, go_sem]
  · simp [HoldsRange, go_sem]
  rintro z w3 ⟨rfl, b3⟩
  obtain ⟨G, Z⟩ := bel_new (g3.alloc z3 _) b3 (by rw [size1]; omega)
  have A3 := ((HoldsRange.new w2 none s a b c d).alloc _).below b3
  have B3 := (HoldsRange.new _ none t e f g h).below b3
  rw [size1] at B3
  clear b3 g3
  simp only []
  generalize w2.heap.size = xa at *
  generalize xa + 1 = xb at *
  have HA := Lib.hid A3
  have HB := Lib.hid B3
  obtain ⟨xa0, xa1, xa2, xa3, xa4, xa5⟩ := A3
  obtain ⟨xb0, xb1, xb2, xb3, xb4, xb5⟩ := B3
  have la : xa < w3.heap.size := World.block_lt_of_cell? w3 _ xa0
  have lb : xb < w3.heap.size := World.block_lt_of_cell? w3 _ xb0
  go_wp2_with fail
  refine (before_bel _ _ _ _ _).mono ?_
  rintro z w4 ⟨rfl, b4⟩
  have T0 : Three none s t a b c d e f g h xa xb w3.heap.size w4 := Three.below ⟨HA.out.alloc _, HB.out.alloc _, HoldsRange.new _ _ _ _ _ _ _⟩ b4
  have GZ := bel_new G b4 Z
  clear G Z
  obtain ⟨G, Z⟩ := GZ
  have T := Lib.hid T0
  clear T0 b4 HA HB la lb xa0 xa1 xa2 xa3 xa4 xa5 xb0 xb1 xb2 xb3 xb4 xb5
  generalize w3.heap.size = xr at *
  simp only [q0]
  obtain ⟨⟨xa0, xa1, xa2, xa3, xa4, xa5⟩, ⟨xb0, xb1, xb2, xb3, xb4, xb5⟩, ⟨xr0, xr1, xr2, xr3, xr4, xr5⟩⟩ := T.out
  have la : xa < w4.heap.size := World.block_lt_of_cell? w4 _ xa0
  have lb : xb < w4.heap.size := World.block_lt_of_cell? w4 _ xb0
  have lr : xr < w4.heap.size := World.block_lt_of_cell? w4 _ xr0
  go_wp2_with fail
  refine (before_bel _ _ _ _ _).mono ?_
  rintro z w5 ⟨rfl, b5⟩
  have T1 := Lib.hid (T.out.below b5)
  have GZ := bel_old G b5 Z
  clear G Z
  obtain ⟨G, Z⟩ := GZ
  clear T b5
  have T := T1
  clear T1
  clear xa0 xa1 xa2 xa3 xa4 xa5 xb0 xb1 xb2 xb3 xb4 xb5 xr0 xr1 xr2 xr3 xr4 xr5 la lb lr
  simp only [hl]
  obtain ⟨⟨xa0, xa1, xa2, xa3, xa4, xa5⟩, ⟨xb0, xb1, xb2, xb3, xb4, xb5⟩, ⟨xr0, xr1, xr2, xr3, xr4, xr5⟩⟩ := T.out
  have la : xa < w5.heap.size := World.block_lt_of_cell? w5 _ xa0
  have lb : xb < w5.heap.size := World.block_lt_of_cell? w5 _ xb0
  have lr : xr < w5.heap.size := World.block_lt_of_cell? w5 _ xr0
  go_wp2_with fail
  refine (before_bel _ _ _ _ _).mono ?_
  rintro z w6 ⟨rfl, b6⟩
  have T1 := Lib.hid (T.out.below b6)
  have GZ := bel_old G b6 Z
  clear G Z
  obtain ⟨G, Z⟩ := GZ
  clear T b6
  have T := T1
  clear T1
  clear xa0 xa1 xa2 xa3 xa4 xa5 xb0 xb1 xb2 xb3 xb4 xb5 xr0 xr1 xr2 xr3 xr4 xr5 la lb lr
  simp only [hm]
  obtain ⟨⟨xa0, xa1, xa2, xa3, xa4, xa5⟩, ⟨xb0, xb1, xb2, xb3, xb4, xb5⟩, ⟨xr0, xr1, xr2, xr3, xr4, xr5⟩⟩ := T.out
  have la : xa < w6.heap.size := World.block_lt_of_cell? w6 _ xa0
  have lb : xb < w6.heap.size := World.block_lt_of_cell? w6 _ xb0
  have lr : xr < w6.heap.size := World.block_lt_of_cell? w6 _ xr0
  go_wp2_with fail
  refine (before_bel _ _ _ _ _).mono ?_
  rintro z w7 ⟨rfl, b7⟩
  have T1 := Lib.hid (T.out.below b7)
  have GZ := bel_old G b7 Z
  clear G Z
  obtain ⟨G, Z⟩ := GZ
  clear T b7
  have T := T1
  clear T1
  clear xa0 xa1 xa2 xa3 xa4 xa5 xb0 xb1 xb2 xb3 xb4 xb5 xr0 xr1 xr2 xr3 xr4 xr5 la lb lr
  simp only [q1]
  obtain ⟨⟨xa0, xa1, xa2, xa3, xa4, xa5⟩, ⟨xb0, xb1, xb2, xb3, xb4, xb5⟩, ⟨xr0, xr1, xr2, xr3, xr4, xr5⟩⟩ := T.out
  have la : xa < w7.heap.size := World.block_lt_of_cell? w7 _ xa0
  have lb : xb < w7.heap.size := World.block_lt_of_cell? w7 _ xb0
  have lr : xr < w7.heap.size := World.block_lt_of_cell? w7 _ xr0
  go_wp2_with fail
  refine (between0 _ _ _ s s a b g h a b g h (HoldsRange.new _ _ _ _ _ _ _) (HoldsRange.new _ _ _ _ _ _ _)).mono ?_
  rintro z w8 ⟨rfl, b8⟩
  have T1 := Lib.hid ((T.out.alloc _).below b8)
  have GZ := bel_new G b8 Z
  clear G Z
  obtain ⟨G, Z⟩ := GZ
  clear T b8
  have T := T1
  clear T1
  clear xa0 xa1 xa2 xa3 xa4 xa5 xb0 xb1 xb2 xb3 xb4 xb5 xr0 xr1 xr2 xr3 xr4 xr5 la lb lr
  simp only []
  obtain ⟨⟨xa0, xa1, xa2, xa3, xa4, xa5⟩, ⟨xb0, xb1, xb2, xb3, xb4, xb5⟩, ⟨xr0, xr1, xr2, xr3, xr4, xr5⟩⟩ := T.out
  have la : xa < w8.heap.size := World.block_lt_of_cell? w8 _ xa0
  have lb : xb < w8.heap.size := World.block_lt_of_cell? w8 _ xb0
  have lr : xr < w8.heap.size := World.block_lt_of_cell? w8 _ xr0
  go_wp2_with fail
  refine (same0 _ s a b g h).mono ?_
  rintro z w9 ⟨rfl, b9⟩
  have T1 := Lib.hid ((T.out.alloc _).below b9)
  have GZ := bel_new G b9 Z
  clear G Z
  obtain ⟨G, Z⟩ := GZ
  clear T b9
  have T := T1
  clear T1
  clear xa0 xa1 xa2 xa3 xa4 xa5 xb0 xb1 xb2 xb3 xb4 xb5 xr0 xr1 xr2 xr3 xr4 xr5 la lb lr
  simp only []
  obtain ⟨⟨xa0, xa1, xa2, xa3, xa4, xa5⟩, ⟨xb0, xb1, xb2, xb3, xb4, xb5⟩, ⟨xr0, xr1, xr2, xr3, xr4, xr5⟩⟩ := T.out
  have la : xa < w9.heap.size := World.block_lt_of_cell? w9 _ xa0
  have lb : xb < w9.heap.size := World.block_lt_of_cell? w9 _ xb0
  have lr : xr < w9.heap.size := World.block_lt_of_cell? w9 _ xr0
  go_wp2_with fail
  refine (between0 _ _ _ s s a b c d a b g h (T.out.1.alloc _) (HoldsRange.new _ _ _ _ _ _ _)).mono ?_
  rintro z w10 ⟨rfl, b10⟩
  have T1 := Lib.hid ((T.out.alloc _).below b10)
  have GZ := bel_new G b10 Z
  clear G Z
  obtain ⟨G, Z⟩ := GZ
  clear T b10
  have T := T1
  clear T1
  clear xa0 xa1 xa2 xa3 xa4 xa5 xb0 xb1 xb2 xb3 xb4 xb5 xr0 xr1 xr2 xr3 xr4 xr5 la lb lr
  simp only []
  obtain ⟨⟨xa0, xa1, xa2, xa3, xa4, xa5⟩, ⟨xb0, xb1, xb2, xb3, xb4, xb5⟩, ⟨xr0, xr1, xr2, xr3, xr4, xr5⟩⟩ := T.out
  have la : xa < w10.heap.size := World.block_lt_of_cell? w10 _ xa0
  have lb : xb < w10.heap.size := World.block_lt_of_cell? w10 _ xb0
  have lr : xr < w10.heap.size := World.block_lt_of_cell? w10 _ xr0
  go_wp2_with fail
  refine (same0 _ s a b g h).mono ?_
  rintro z w11 ⟨rfl, b11⟩
  have T1 := Lib.hid ((T.out.alloc _).below b11)
  have GZ := bel_new G b11 Z
  clear G Z
  obtain ⟨G, Z⟩ := GZ
  clear T b11
  have T := T1
  clear T1
  clear xa0 xa1 xa2 xa3 xa4 xa5 xb0 xb1 xb2 xb3 xb4 xb5 xr0 xr1 xr2 xr3 xr4 xr5 la lb lr
  simp only []
  obtain ⟨⟨xa0, xa1, xa2, xa3, xa4, xa5⟩, ⟨xb0, xb1, xb2, xb3, xb4, xb5⟩, ⟨xr0, xr1, xr2, xr3, xr4, xr5⟩⟩ := T.out
  have la : xa < w11.heap.size := World.block_lt_of_cell? w11 _ xa0
  have lb : xb < w11.heap.size := World.block_lt_of_cell? w11 _ xb0
  have lr : xr < w11.heap.size := World.block_lt_of_cell? w11 _ xr0
  go_wp2_with fail
  refine (between0 _ _ _ s t a b g h e f g h (HoldsRange.new _ _ _ _ _ _ _) (T.out.2.1.alloc _)).mono ?_
  rintro z w12 ⟨rfl, b12⟩
  have T1 := Lib.hid ((T.out.alloc _).below b12)
  have GZ := bel_new G b12 Z
  clear G Z
  obtain ⟨G, Z⟩ := GZ
  clear T b12
  have T := T1
  clear T1
  clear xa0 xa1 xa2 xa3 xa4 xa5 xb0 xb1 xb2 xb3 xb4 xb5 xr0 xr1 xr2 xr3 xr4 xr5 la lb lr
  simp only []
  obtain ⟨⟨xa0, xa1, xa2, xa3, xa4, xa5⟩, ⟨xb0, xb1, xb2, xb3, xb4, xb5⟩, ⟨xr0, xr1, xr2, xr3, xr4, xr5⟩⟩ := T.out
  have la : xa < w12.heap.size := World.block_lt_of_cell? w12 _ xa0
  have lb : xb < w12.heap.size := World.block_lt_of_cell? w12 _ xb0
  have lr : xr < w12.heap.size := World.block_lt_of_cell? w12 _ xr0
  go_wp2_with fail
  refine (same0 _ s a b g h).mono ?_
  rintro z w13 ⟨rfl, b13⟩
  have T1 := Lib.hid ((T.out.alloc _).below b13)
  have GZ := bel_new G b13 Z
  clear G Z
  obtain ⟨G, Z⟩ := GZ
  clear T b13
  have T := T1
  clear T1
  clear xa0 xa1 xa2 xa3 xa4 xa5 xb0 xb1 xb2 xb3 xb4 xb5 xr0 xr1 xr2 xr3 xr4 xr5 la lb lr
  simp only []
  go_wp2_with fail
  go_ret
  exact ⟨rfl, G⟩

set_option maxRecDepth 100000 in
set_option maxHeartbeats 2000000 in
theorem bet_main1 (s t : ByteArray) (a b c d e f g h : Int) (w : World) (h0 : s.size ≤ 1048576) (h1 : t.size ≤ 1048576) (h2 : s.size + t.size ≤ 1048576) (hl : lexB e f a b = false) (hm : lexB g h c d = false) :
    Calls Try.prog 6 #[.bool true, .string s, .string t, .int .i64 a, .int .i64 b, .int .i64 c, .int .i64 d, .int .i64 e, .int .i64 f, .int .i64 g, .int .i64 h] w fun e w' => e = .returned (.bool true) ∧ Below w.heap.size w w' := by
  have q0 : lexB a b a b = false := by simp [lexB]
  have q1 : lexB g h g h = false := by simp [lexB]
  go_enter Try.func6, Try.ntmps6
  go_wp2_with (first | (go_at_call 14; go_in) | fail)
  refine (lex_bel e f a b w).mono ?_
  rintro z w1 ⟨rfl, g1⟩
  go_wp2_with fail
  refine (lex_bel g h c d w1).mono ?_
  rintro z w2 ⟨rfl, g2⟩
  obtain ⟨g3, z3⟩ := bel_old g1 g2 g1.size
  clear g1 g2
  go_wp2_with (first | (go_at_call 11; go_in) | fail)
  refine (between1 w2.heap.size _ _ _ s t a b c d e f g h ?_ ?_).mono ?_
  · simp [HoldsRange, go_sem]
  · simp [HoldsRange, go_sem]
  rintro z w3 ⟨rfl, b3⟩
  obtain ⟨G, Z⟩ := bel_new ((g3.alloc z3 _).alloc (by rw [size1]; omega) _) b3 (by rw [size1, size1]; omega)
  have A3 := ((HoldsRange.new _ (some ⟨w2.heap.size, 0, none⟩) s a b c d).alloc _).below b3
  have B3 := (HoldsRange.new _ (some ⟨w2.heap.size, 0, none⟩) t e f g h).below b3
  rw [size1] at A3
  rw [size1, size1] at B3
  clear b3 g3
  simp only []
  generalize w2.heap.size = k at *
  generalize k + 1 = xa at *
  generalize xa + 1 = xb at *
  have HA := Lib.hid A3
  have HB := Lib.hid B3
  obtain ⟨xa0, xa1, xa2, xa3, xa4, xa5⟩ := A3
  obtain ⟨xb0, xb1, xb2, xb3, xb4, xb5⟩ := B3
  have la : xa < w3.heap.size := World.block_lt_of_cell? w3 _ xa0
  have lb : xb < w3.heap.size := World.block_lt_of_cell? w3 _ xb0
  go_wp2_with fail
  refine (before_bel _ _ _ _ _).mono ?_
  rintro z w4 ⟨rfl, b4⟩
  have T0 : Three (some ⟨k, 0, none⟩) s t a b c d e f g h xa xb w3.heap.size w4 := Three.below ⟨HA.out.alloc _, HB.out.alloc _, HoldsRange.new _ _ _ _ _ _ _⟩ b4
  have GZ := bel_new G b4 Z
  clear G Z
  obtain ⟨G, Z⟩ := GZ
  have T := Lib.hid T0
  clear T0 b4 HA HB la lb xa0 xa1 xa2 xa3 xa4 xa5 xb0 xb1 xb2 xb3 xb4 xb5
  generalize w3.heap.size = xr at *
  simp only [q0]
  obtain ⟨⟨xa0, xa1, xa2, xa3, xa4, xa5⟩, ⟨xb0, xb1, xb2, xb3, xb4, xb5⟩, ⟨xr0, xr1, xr2, xr3, xr4, xr5⟩⟩ := T.out
  have la : xa < w4.heap.size := World.block_lt_of_cell? w4 _ xa0
  have lb : xb < w4.heap.size := World.block_lt_of_cell? w4 _ xb0
  have lr : xr < w4.heap.size := World.block_lt_of_cell? w4 _ xr0
  go_wp2_with fail
  refine (before_bel _ _ _ _ _).mono ?_
  rintro z w5 ⟨rfl, b5⟩
  have T1 := Lib.hid (T.out.below b5)
  have GZ := bel_old G b5 Z
  clear G Z
  obtain ⟨G, Z⟩ := GZ
  clear T b5
  have T := T1
  clear T1
  clear xa0 xa1 xa2 xa3 xa4 xa5 xb0 xb1 xb2 xb3 xb4 xb5 xr0 xr1 xr2 xr3 xr4 xr5 la lb lr
  simp only [hl]
  obtain ⟨⟨xa0, xa1, xa2, xa3, xa4, xa5⟩, ⟨xb0, xb1, xb2, xb3, xb4, xb5⟩, ⟨xr0, xr1, xr2, xr3, xr4, xr5⟩⟩ := T.out
  have la : xa < w5.heap.size := World.block_lt_of_cell? w5 _ xa0
  have lb : xb < w5.heap.size := World.block_lt_of_cell? w5 _ xb0
  have lr : xr < w5.heap.size := World.block_lt_of_cell? w5 _ xr0
  go_wp2_with fail
  refine (before_bel _ _ _ _ _).mono ?_
  rintro z w6 ⟨rfl, b6⟩
  have T1 := Lib.hid (T.out.below b6)
  have GZ := bel_old G b6 Z
  clear G Z
  obtain ⟨G, Z⟩ := GZ
  clear T b6
  have T := T1
  clear T1
  clear xa0 xa1 xa2 xa3 xa4 xa5 xb0 xb1 xb2 xb3 xb4 xb5 xr0 xr1 xr2 xr3 xr4 xr5 la lb lr
  simp only [hm]
  obtain ⟨⟨xa0, xa1, xa2, xa3, xa4, xa5⟩, ⟨xb0, xb1, xb2, xb3, xb4, xb5⟩, ⟨xr0, xr1, xr2, xr3, xr4, xr5⟩⟩ := T.out
  have la : xa < w6.heap.size := World.block_lt_of_cell? w6 _ xa0
  have lb : xb < w6.heap.size := World.block_lt_of_cell? w6 _ xb0
  have lr : xr < w6.heap.size := World.block_lt_of_cell? w6 _ xr0
  go_wp2_with fail
  refine (before_bel _ _ _ _ _).mono ?_
  rintro z w7 ⟨rfl, b7⟩
  have T1 := Lib.hid (T.out.below b7)
  have GZ := bel_old G b7 Z
  clear G Z
  obtain ⟨G, Z⟩ := GZ
  clear T b7
  have T := T1
  clear T1
  clear xa0 xa1 xa2 xa3 xa4 xa5 xb0 xb1 xb2 xb3 xb4 xb5 xr0 xr1 xr2 xr3 xr4 xr5 la lb lr
  simp only [q1]
  obtain ⟨⟨xa0, xa1, xa2, xa3, xa4, xa5⟩, ⟨xb0, xb1, xb2, xb3, xb4, xb5⟩, ⟨xr0, xr1, xr2, xr3, xr4, xr5⟩⟩ := T.out
  have la : xa < w7.heap.size := World.block_lt_of_cell? w7 _ xa0
  have lb : xb < w7.heap.size := World.block_lt_of_cell? w7 _ xb0
  have lr : xr < w7.heap.size := World.block_lt_of_cell? w7 _ xr0
  go_wp2_with fail
  refine (between1 k _ _ _ s s a b g h a b g h (HoldsRange.new _ _ _ _ _ _ _) (HoldsRange.new _ _ _ _ _ _ _)).mono ?_
  rintro z w8 ⟨rfl, b8⟩
  have T1 := Lib.hid ((T.out.alloc _).below b8)
  have GZ := bel_new G b8 Z
  clear G Z
  obtain ⟨G, Z⟩ := GZ
  clear T b8
  have T := T1
  clear T1
  clear xa0 xa1 xa2 xa3 xa4 xa5 xb0 xb1 xb2 xb3 xb4 xb5 xr0 xr1 xr2 xr3 xr4 xr5 la lb lr
  simp only []
  obtain ⟨⟨xa0, xa1, xa2, xa3, xa4, xa5⟩, ⟨xb0, xb1, xb2, xb3, xb4, xb5⟩, ⟨xr0, xr1, xr2, xr3, xr4, xr5⟩⟩ := T.out
  have la : xa < w8.heap.size := World.block_lt_of_cell? w8 _ xa0
  have lb : xb < w8.heap.size := World.block_lt_of_cell? w8 _ xb0
  have lr : xr < w8.heap.size := World.block_lt_of_cell? w8 _ xr0
  go_wp2_with fail
  refine (same1 k _ s a b g h).mono ?_
  rintro z w9 ⟨rfl, b9⟩
  have T1 := Lib.hid ((T.out.alloc _).below b9)
  have GZ := bel_new G b9 Z
  clear G Z
  obtain ⟨G, Z⟩ := GZ
  clear T b9
  have T := T1
  clear T1
  clear xa0 xa1 xa2 xa3 xa4 xa5 xb0 xb1 xb2 xb3 xb4 xb5 xr0 xr1 xr2 xr3 xr4 xr5 la lb lr
  simp only []
  obtain ⟨⟨xa0, xa1, xa2, xa3, xa4, xa5⟩, ⟨xb0, xb1, xb2, xb3, xb4, xb5⟩, ⟨xr0, xr1, xr2, xr3, xr4, xr5⟩⟩ := T.out
  have la : xa < w9.heap.size := World.block_lt_of_cell? w9 _ xa0
  have lb : xb < w9.heap.size := World.block_lt_of_cell? w9 _ xb0
  have lr : xr < w9.heap.size := World.block_lt_of_cell? w9 _ xr0
  go_wp2_with fail
  refine (between1 k _ _ _ s s a b c d a b g h (T.out.1.alloc _) (HoldsRange.new _ _ _ _ _ _ _)).mono ?_
  rintro z w10 ⟨rfl, b10⟩
  have T1 := Lib.hid ((T.out.alloc _).below b10)
  have GZ := bel_new G b10 Z
  clear G Z
  obtain ⟨G, Z⟩ := GZ
  clear T b10
  have T := T1
  clear T1
  clear xa0 xa1 xa2 xa3 xa4 xa5 xb0 xb1 xb2 xb3 xb4 xb5 xr0 xr1 xr2 xr3 xr4 xr5 la lb lr
  simp only []
  obtain ⟨⟨xa0, xa1, xa2, xa3, xa4, xa5⟩, ⟨xb0, xb1, xb2, xb3, xb4, xb5⟩, ⟨xr0, xr1, xr2, xr3, xr4, xr5⟩⟩ := T.out
  have la : xa < w10.heap.size := World.block_lt_of_cell? w10 _ xa0
  have lb : xb < w10.heap.size := World.block_lt_of_cell? w10 _ xb0
  have lr : xr < w10.heap.size := World.block_lt_of_cell? w10 _ xr0
  go_wp2_with fail
  refine (same1 k _ s a b g h).mono ?_
  rintro z w11 ⟨rfl, b11⟩
  have T1 := Lib.hid ((T.out.alloc _).below b11)
  have GZ := bel_new G b11 Z
  clear G Z
  obtain ⟨G, Z⟩ := GZ
  clear T b11
  have T := T1
  clear T1
  clear xa0 xa1 xa2 xa3 xa4 xa5 xb0 xb1 xb2 xb3 xb4 xb5 xr0 xr1 xr2 xr3 xr4 xr5 la lb lr
  simp only []
  obtain ⟨⟨xa0, xa1, xa2, xa3, xa4, xa5⟩, ⟨xb0, xb1, xb2, xb3, xb4, xb5⟩, ⟨xr0, xr1, xr2, xr3, xr4, xr5⟩⟩ := T.out
  have la : xa < w11.heap.size := World.block_lt_of_cell? w11 _ xa0
  have lb : xb < w11.heap.size := World.block_lt_of_cell? w11 _ xb0
  have lr : xr < w11.heap.size := World.block_lt_of_cell? w11 _ xr0
  go_wp2_with fail
  refine (between1 k _ _ _ s t a b g h e f g h (HoldsRange.new _ _ _ _ _ _ _) (T.out.2.1.alloc _)).mono ?_
  rintro z w12 ⟨rfl, b12⟩
  have T1 := Lib.hid ((T.out.alloc _).below b12)
  have GZ := bel_new G b12 Z
  clear G Z
  obtain ⟨G, Z⟩ := GZ
  clear T b12
  have T := T1
  clear T1
  clear xa0 xa1 xa2 xa3 xa4 xa5 xb0 xb1 xb2 xb3 xb4 xb5 xr0 xr1 xr2 xr3 xr4 xr5 la lb lr
  simp only []
  obtain ⟨⟨xa0, xa1, xa2, xa3, xa4, xa5⟩, ⟨xb0, xb1, xb2, xb3, xb4, xb5⟩, ⟨xr0, xr1, xr2, xr3, xr4, xr5⟩⟩ := T.out
  have la : xa < w12.heap.size := World.block_lt_of_cell? w12 _ xa0
  have lb : xb < w12.heap.size := World.block_lt_of_cell? w12 _ xb0
  have lr : xr < w12.heap.size := World.block_lt_of_cell? w12 _ xr0
  go_wp2_with fail
  refine (same1 k _ s a b g h).mono ?_
  rintro z w13 ⟨rfl, b13⟩
  have T1 := Lib.hid ((T.out.alloc _).below b13)
  have GZ := bel_new G b13 Z
  clear G Z
  obtain ⟨G, Z⟩ := GZ
  clear T b13
  have T := T1
  clear T1
  clear xa0 xa1 xa2 xa3 xa4 xa5 xb0 xb1 xb2 xb3 xb4 xb5 xr0 xr1 xr2 xr3 xr4 xr5 la lb lr
  simp only []
  go_wp2_with fail
  go_ret
  exact ⟨rfl, G⟩

end Go.Proofs.Ytglamlgmeknkhaa
