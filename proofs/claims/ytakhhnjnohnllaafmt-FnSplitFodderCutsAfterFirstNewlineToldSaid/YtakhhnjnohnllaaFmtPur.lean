/- splitFodder as plain data: comments and blanks are kept; where it cuts. -/
import Derived.Test.YtakhhnjnohnllaaFmtCmp
namespace Go.Proofs.YtakhhnjnohnllaaFmt
open Go.RowKit
set_option linter.unusedVariables false

def zsum (es : List LE) : Int := es.foldr (fun e s => e.blanks + s) 0
theorem zsum_append (a b : List LE) : zsum (a ++ b) = zsum a + zsum b := by
  induction a with
  | nil => simp [zsum]
  | cons e a ih =>
    have h1 : zsum (e :: (a ++ b)) = e.blanks + zsum (a ++ b) := rfl
    have h2 : zsum (e :: a) = e.blanks + zsum a := rfl
    rw [List.cons_append, h1, h2, ih]
    omega
theorem wrap_add (a b : Int) : wrap64 (wrap64 a + b) = wrap64 (a + b) := by unfold wrap64; omega
theorem wrap_add2 (a b : Int) : wrap64 (wrap64 a + wrap64 b) = wrap64 (a + b) := by unfold wrap64; omega
theorem sumB_eq (es : List LE) : sumB es = wrap64 (zsum es) := by
  have : ∀ (es : List LE) (s : Int), es.foldl (fun s e => wrap64 (s + e.blanks)) (wrap64 s) = wrap64 (s + zsum es) := by
    intro es
    induction es with
    | nil => intro s; simp [zsum]
    | cons e es ih =>
      intro s
      have h2 : zsum (e :: es) = e.blanks + zsum es := rfl
      rw [List.foldl_cons, wrap_add, ih, h2]
      congr 1
      omega
  have h := this es 0
  have h0 : wrap64 0 = 0 := by unfold wrap64; omega
  rw [h0] at h
  unfold sumB
  rw [h]
  congr 1
  omega
theorem zsum_set (l : List LE) : ∀ (i : Nat) (old x : LE), l[i]? = some old → zsum (l.set i x) = zsum l - old.blanks + x.blanks := by
  induction l with
  | nil => intro i old x h; simp at h
  | cons e l ih =>
    intro i old x h
    have h2 : ∀ e l, zsum (e :: l) = e.blanks + zsum l := fun _ _ => rfl
    cases i with
    | zero =>
      simp at h
      subst h
      rw [List.set_cons_zero, h2, h2]
      omega
    | succ i =>
      simp at h
      rw [List.set_cons_succ, h2, h2, ih i old x h]
      omega
theorem coms_append (a b : List LE) : coms (a ++ b) = coms a ++ coms b := by simp [coms]
theorem coms_set (l : List LE) : ∀ (i : Nat) (old x : LE), l[i]? = some old → x.com = old.com → coms (l.set i x) = coms l := by
  induction l with
  | nil => intro i old x h; simp at h
  | cons e l ih =>
    intro i old x h hx
    cases i with
    | zero =>
      simp at h
      subst h
      simp [coms, hx]
    | succ i =>
      simp at h
      have := ih i old x h hx
      simp only [coms, List.set_cons_succ, List.flatMap_cons] at this ⊢
      rw [this]
theorem bump_keeps (b : List LE) (e : LE) (hc : isClean b = true) (h0 : ¬ 0 < (e.com.getD []).length) : coms (bumpLast b e.blanks e.indent) = coms b ++ e.com.getD [] ∧ wrap64 (zsum (bumpLast b e.blanks e.indent)) = wrap64 (zsum b + e.blanks) := by
  have hnil : e.com.getD [] = [] := List.length_eq_zero_iff.1 (by omega)
  have hne : b ≠ [] := by rintro rfl; simp [isClean] at hc
  have hpos : 0 < b.length := List.length_pos_iff.2 hne
  obtain ⟨le, hle⟩ : ∃ le, b[b.length - 1]? = some le := ⟨b[b.length - 1]'(by omega), by simp⟩
  unfold bumpLast
  rw [hle]
  simp only
  refine ⟨by rw [hnil, List.append_nil]; exact coms_set _ _ _ _ hle rfl, ?_⟩
  rw [zsum_set _ _ _ _ hle]
  simp only
  unfold wrap64
  omega
theorem fapp_keeps (b : List LE) (e : LE) : coms (fapp b e) = coms b ++ e.com.getD [] ∧ wrap64 (zsum (fapp b e)) = wrap64 (zsum b + e.blanks) := by
  unfold fapp
  split
  · next h =>
    split
    · rw [coms_append, zsum_append]
      simp [coms, zsum]
    · next h0 => exact bump_keeps b e h.1 h0
  · split
    · rw [coms_append, coms_append, zsum_append, zsum_append]
      simp [coms, zsum]
    · rw [coms_append, zsum_append]
      simp [coms, zsum]
def Ahead (s : List LE × List LE × Bool) : Prop := s.2.2 = false → s.2.1 = []
theorem splS_keeps (s : List LE × List LE × Bool) (e : LE) (h : Ahead s) : coms (splS s e).1 ++ coms (splS s e).2.1 = coms s.1 ++ coms s.2.1 ++ e.com.getD [] ∧ wrap64 (zsum (splS s e).1 + zsum (splS s e).2.1) = wrap64 (zsum s.1 + zsum s.2.1 + e.blanks) ∧ Ahead (splS s e) := by
  have h0 : coms [] = [] := rfl
  have z0 : zsum [] = 0 := rfl
  have z1 : ∀ e, zsum [e] = e.blanks := fun e => by show e.blanks + 0 = _; omega
  have c1 : ∀ e : LE, coms [e] = e.com.getD [] := fun e => by simp [coms]
  unfold splS
  split
  · next hs =>
    obtain ⟨k1, k2⟩ := fapp_keeps s.2.1 e
    refine ⟨by simp only [k1, List.append_assoc], ?_, fun h => by simp at h⟩
    simp only
    unfold wrap64 at k2 ⊢
    omega
  · next hs =>
    have hnil := h (by simpa using hs)
    split
    · refine ⟨by simp only [hnil, coms_append, c1, h0, List.append_nil], by simp only [hnil, zsum_append, z1, z0]; congr 1; omega, fun _ => hnil⟩
    · split
      · refine ⟨by simp only [hnil, coms_append, c1, h0, List.append_nil, List.nil_append, Option.getD_none], by simp only [hnil, zsum_append, z1, z0]; congr 1; omega, fun h => by simp at h⟩
      · refine ⟨by simp only [hnil, coms_append, c1, h0, List.append_nil], by simp only [hnil, zsum_append, z1, z0]; congr 1; omega, fun h => by simp at h⟩
theorem foldl_keeps (es : List LE) : ∀ s : List LE × List LE × Bool, Ahead s → coms (es.foldl splS s).1 ++ coms (es.foldl splS s).2.1 = coms s.1 ++ coms s.2.1 ++ coms es ∧ wrap64 (zsum (es.foldl splS s).1 + zsum (es.foldl splS s).2.1) = wrap64 (zsum s.1 + zsum s.2.1 + zsum es) := by
  induction es with
  | nil => intro s h; simp [coms, zsum]
  | cons e es ih =>
    intro s h
    obtain ⟨k1, k2, k3⟩ := splS_keeps s e h
    obtain ⟨i1, i2⟩ := ih _ k3
    have c2 : coms (e :: es) = e.com.getD [] ++ coms es := by simp [coms]
    have z2 : zsum (e :: es) = e.blanks + zsum es := rfl
    rw [List.foldl_cons]
    refine ⟨by rw [i1, k1, c2, List.append_assoc], ?_⟩
    rw [i2, z2]
    unfold wrap64 at k2 ⊢
    omega
theorem splF_coms (es : List LE) : coms (splF es).1 ++ coms (splF es).2.1 = coms es := by
  have := (foldl_keeps es ([], [], false) fun _ => rfl).1
  simpa [coms, splF] using this
theorem splF_sums (es : List LE) : wrap64 (sumB (splF es).1 + sumB (splF es).2.1) = sumB es := by
  have := (foldl_keeps es ([], [], false) fun _ => rfl).2
  rw [sumB_eq, sumB_eq, sumB_eq, wrap_add2]
  simpa [zsum, splF] using this

theorem fapp_ne (b : List LE) (e : LE) (h : b ≠ [] ∨ True) : fapp b e ≠ [] := by
  intro hn
  have hp : 0 < (fapp b e).length := by
    unfold fapp
    split
    · next h =>
      split
      · simp
      · have hne : b ≠ [] := by rintro rfl; simp [isClean] at h
        have hpos : 0 < b.length := List.length_pos_iff.2 hne
        unfold bumpLast
        split
        · simpa using hpos
        · exact hpos
    · split
      · simp
      · simp
  rw [hn] at hp
  simp at hp
theorem foldl_fapp_ne (l : List LE) : ∀ b : List LE, b ≠ [] ∨ l ≠ [] → l.foldl fapp b ≠ [] := by
  induction l with
  | nil => intro b h; simpa using h
  | cons e l ih => intro b h; exact ih _ (.inl (fapp_ne b e (.inr trivial)))
theorem splS_ahead (pre : List LE) (h : ∀ x ∈ pre, x.kind = 1) : ∀ a : List LE, pre.foldl splS (a, [], false) = (a ++ pre, [], false) := by
  induction pre with
  | nil => intro a; simp
  | cons e pre ih =>
    intro a
    have he := h e (List.mem_cons_self)
    rw [List.foldl_cons, show splS (a, [], false) e = (a ++ [e], [], false) by simp [splS, he], ih (fun x hx => h x (List.mem_cons_of_mem _ hx))]
    simp
theorem splS_behind (post : List LE) : ∀ a b : List LE, post.foldl splS (a, b, true) = (a, post.foldl fapp b, true) := by
  induction post with
  | nil => intro a b; rfl
  | cons e post ih =>
    intro a b
    rw [List.foldl_cons, List.foldl_cons, show splS (a, b, true) e = (a, fapp b e, true) by simp [splS], ih]
theorem splF_all (es : List LE) (h : ∀ x ∈ es, x.kind = 1) : splF es = (es, [], false) := by
  have := splS_ahead es h []
  simpa [splF] using this
theorem splF_cut (pre post : List LE) (e : LE) (h : ∀ x ∈ pre, x.kind = 1) (he : e.kind ≠ 1) :
    splF (pre ++ e :: post) = if 0 < e.blanks then (pre ++ [⟨e.kind, 0, e.indent, e.com⟩], post.foldl fapp [⟨0, e.blanks, e.indent, none⟩], true) else (pre ++ [e], post.foldl fapp [], true) := by
  unfold splF
  rw [List.foldl_append, splS_ahead pre h [], List.foldl_cons, List.nil_append]
  split
  · next hb => rw [show splS (pre, [], false) e = (pre ++ [⟨e.kind, 0, e.indent, e.com⟩], [⟨0, e.blanks, e.indent, none⟩], true) by simp [splS, he, hb], splS_behind]
  · next hb => rw [show splS (pre, [], false) e = (pre ++ [e], [], true) by simp [splS, he, hb], splS_behind]
end Go.Proofs.YtakhhnjnohnllaaFmt
