/- FodderEnsureCleanNewline at an address whose slice is full. -/
import Derived.Test.YtlaghkppjdphnaaFmtEns
import Derived.Test.YtlaghkppjdphnaaFmtCle
namespace Go.Proofs.YtlaghkppjdphnaaFmt
open Go.RowKit
set_option linter.unusedVariables false

def ens (es : List LE) : List LE := if isClean es = true then es else es ++ [⟨0, 0, 0, some []⟩]
/-- Cell o of block p holds a slice that reads es; nothing else that was there has turned. -/
def Ensd (w : World) (p o : Nat) (t : TypeId) (cs : Array Value) (S : Nat → Prop) (es : List LE) (e : Ending) (w' : World) : Prop :=
  e = .returned (.tuple #[]) ∧ (∃ v', Blk w' p t (cs.setIfInBounds o v') ∧ (∃ f, FodV w' (fun b => S b ∨ New w w' b) v' f ∧ f.getD [] = es)) ∧ Fr w w' (fun b => b = p)

theorem FodC.open {w : World} {S : Nat → Prop} {v : Value} {f : Option (List LE)} (h : FodC w S v f) : ∃ a, v = .slice a (f.getD []).length (f.getD []).length ∧ (f.getD []).length ≤ 16777000 ∧ FodIs w S a (f.getD []) ∧ (a = none → (f.getD []).length = 0) := by
  cases f with
  | none => exact ⟨none, h, by simp, ⟨[], ElsAre.nil _ _, .inl rfl⟩, by simp⟩
  | some es => obtain ⟨x, h1, h2, h3⟩ := h; exact ⟨some x, h1, h2, h3, by simp⟩

set_option maxRecDepth 100000 in
set_option maxHeartbeats 6400000 in
theorem fapp_full (w : World) (p o : Nat) (t : TypeId) (cs : Array Value) (v : Value) (hb : Blk w p t cs) (hat : cs[o]? = some v) (S : Nat → Prop) (f : Option (List LE)) (hf : FodC w S v f) (hS : ∀ b, S b → b < w.heap.size ∧ b ≠ p) (hc : isClean (f.getD []) = false) (ca : Addr) :
    Calls Tryf.prog 45 #[.pointer (some ⟨p, o, none⟩), .agg #[.slice (some ca) 0 0, .int .i64 0, .int .i64 0, .int .i64 0]] w (Ensd w p o t cs S (f.getD [] ++ [⟨0, 0, 0, some []⟩])) := by
  obtain ⟨a, rfl, hle, hfo, hnone⟩ := hf.open
  clear hf
  generalize f.getD [] = es at *
  unfold Ensd
  obtain ⟨i0, hi, hz0, hz1, hz2⟩ := info_parts infE
  have HI := Lib.hid hi
  have HZ0 := Lib.hid hz0
  have HZ1 := Lib.hid hz1
  have HZ2 := Lib.hid hz2
  have c0 := hb.cell o
  rw [hat] at c0
  have f0 := hb.free o
  have pl := hb.lt
  have KCL := Lib.hid (clean_fod (w.alloc (.cells #[.slice (some ca) 0 0, .int .i64 0, .int .i64 0, .int .i64 0] 91)) S a es.length es.length es (hfo.keep (Agree.alloc _ _ _ fun b h => (hS b h).1)) (fun b h => by have := (hS b h).1; simp; omega) rfl (by omega))
  rw [hc] at KCL
  obtain ⟨els, he1, he2⟩ := hfo
  have hel : els.length = es.length := he1.1
  have HE1 := Lib.hid he1
  have HE2 := Lib.hid he2
  have HN := Lib.hid hnone
  have HB := Lib.hid hb
  have HS := Lib.hid hS
  have HLEN := Lib.hid hel
  have HAT := Lib.hid hat
  clear hi hz0 hz1 hz2 hc he1 he2 hnone hb hat
  generalize hn : es.length = n at *
  go_enter Tryf.func45, Tryf.ntmps45
  go_wp2_with fail
  refine KCL.out.mono ?_
  rintro e w1 ⟨rfl, rfl⟩
  go_wp2_with fail
  refine KCL.out.mono ?_
  rintro e w1 ⟨rfl, rfl⟩
  have pl1 : p < w.heap.size + 1 := by omega
  have pl2 : p < w.heap.size + 1 + 1 := by omega
  have AG2 := Lib.hid ((Agree.alloc S w (.cells #[.slice (some ca) 0 0, .int .i64 0, .int .i64 0, .int .i64 0] 91) fun b h => (HS.out b h).1).trans (Agree.alloc S (w.alloc (.cells #[.slice (some ca) 0 0, .int .i64 0, .int .i64 0, .int .i64 0] 91)) (.cells #[.slice (some ca) 0 0, .int .i64 0, .int .i64 0, .int .i64 0] 91) fun b h => by have := (HS.out b h).1; simp; omega))
  go_wp2_with fail
  go_region_law (first | (refine step_append_full rfl (.tmp 79) (.tmp 81) 28 rfl 91 i0 _ 4 48 Tryf.underlying28 HI.out HZ0.out HZ1.out HZ2.out (by simp [Value.cells]) (by omega) a n (cellsF els) rfl HN.out (by rw [cellsF_len, HLEN.out]) (by intro b hb9 j u hu; subst hb9; obtain ⟨b3, o3, e3, hb3, hc3⟩ := (HE2.out.keep AG2.out).pos (by have := (List.getElem?_eq_some_iff.1 hu).1; omega); injection e3 with e3; subst e3; rw [Go.WideShapes.add_plain]; exact hc3 j u hu) _ 1 1 (El.cells ⟨.slice (some ca) 0 0, 0, 0, 0⟩) rfl rfl (new_cellsN _ _ _ _ (by simp)) (by intro u hu; simp only [El.cells, List.mem_cons, List.not_mem_nil, or_false] at hu; rcases hu with rfl | rfl | rfl | rfl <;> rfl) (by omega) (by unfold maxLen; omega) (by omega) ?_; intro g2 cap2 w2 hown hgrow hg2 hlt2; have b2 := ((HB.out.alloc _).alloc _).drew.grown hgrow (fun e => by cases e); have f2 := b2.free o; have c2 := b2.cell o; rw [HAT.out] at c2; have pl9 := b2.lt))
  all_goals
    have HOW := Lib.hid hown
    have HGR := Lib.hid hgrow
    have HB2 := Lib.hid b2
    have hgs : w.heap.size ≤ g2 := by
      have h9 : ((w.alloc (.cells #[.slice (some ca) 0 0, .int .i64 0, .int .i64 0, .int .i64 0] 91)).alloc (.cells #[.slice (some ca) 0 0, .int .i64 0, .int .i64 0, .int .i64 0] 91)).heap.size ≤ g2 := hg2
      simp at h9
      omega
    clear hown hgrow b2 hg2 c2 f2
    go_wp2
    go_end0
    have FR0 : Fr w w2 (fun b => b = p) := (((Fr.refl w _).alloc _).alloc _).drew.grown HGR.out (fun q hq => by cases hq)
    have FR : Fr w (w2.setCell ⟨p, o, none⟩ (.slice (some ⟨g2, 0, none⟩) (n + 1) cap2)) (fun b => b = p) := FR0.setCell _ _ (.inl rfl)
    refine ⟨rfl, ⟨_, HB2.out.set o _, some (es ++ [⟨0, 0, 0, some []⟩]), ⟨⟨g2, 0, none⟩, cap2, by rw [List.length_append, hn]; rfl, by rw [List.length_append, hn]; simp; omega, els ++ [⟨.slice (some ca) 0 0, 0, 0, 0⟩], ?_, ?_⟩, rfl⟩, FR⟩
    · have hag : Agree S w (w2.setCell ⟨p, o, none⟩ (.slice (some ⟨g2, 0, none⟩) (n + 1) cap2)) := FR.agree fun b h => HS.out b h
      refine ElsAre.snoc ((HE1.out.keep hag).sub fun b h => .inl h) ⟨rfl, rfl, rfl, ⟨ca, 0, rfl, by simp, .inl rfl⟩⟩
    · have h4 := HOW.out
      have hne : g2 ≠ p := by omega
      refine .inr ⟨g2, 0, rfl, .inr ⟨hgs, by simpa using hlt2⟩, fun i u hu => ?_⟩
      have h5 := h4.cells (g := g2) rfl i u (by rw [cellsF_append] at hu; simpa [cellsF] using hu)
      rw [Go.WideShapes.add_plain] at h5
      rw [← h5]
      exact World.cell?_of_block (a := ⟨g2, 0 + i, none⟩) (Below.heap_setCell w2 ⟨p, o, none⟩ _ g2 hne)
end Go.Proofs.YtlaghkppjdphnaaFmt
