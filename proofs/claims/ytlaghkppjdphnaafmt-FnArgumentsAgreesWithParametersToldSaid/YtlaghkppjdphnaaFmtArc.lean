/- What zzBuildArgs leaves is what FixNewlines.Arguments wants. -/
import Derived.Test.YtlaghkppjdphnaaFmtAra
import Derived.Test.YtlaghkppjdphnaaFmtArb
import Derived.Test.YtlaghkppjdphnaaFmtL42
namespace Go.Proofs.YtlaghkppjdphnaaFmt
open Go.RowKit
set_option linter.unusedVariables false

theorem nodup_at {l : List Nat} (h : l.Nodup) {i j a : Nat} (h1 : l[i]? = some a) (h2 : l[j]? = some a) : i = j := by
  obtain ⟨hi, e1⟩ := List.getElem?_eq_some_iff.1 h1
  obtain ⟨hj, e2⟩ := List.getElem?_eq_some_iff.1 h2
  exact (List.getElem_inj h).1 (e1.trans e2.symm)
theorem argS_of {w4 w5 w6 : World} {a0 : Option Addr} {zs0 : List QE} {a3 : Option Addr} {zs3 : List QE} {n1 n2 ng : Nat} {ss ts : List QS} {lns : List Nat} {vs : List Value} {us : List (Value × Nat)} {lv rv : Value} (hq0 : (inQ a0 zs0).getD [] = zs0.map QE.le) (hq3 : (inQ a3 zs3).getD [] = zs3.map QE.le) (hqs : ∀ s ∈ ss, (inQ s.a s.zs).getD [] = s.zs.map QE.le) (hqt : ∀ s ∈ ts, (inQ s.a s.zs).getD [] = s.zs.map QE.le)
    (hl1 : ss.length = n1) (hl2 : ts.length = n2) (hs : w4.heap.size + 1 ≤ w5.heap.size) (L5 : Blk w5 w4.heap.size 28 #[lv]) (V0 : FodC w5 (fun b => b < w4.heap.size) lv (inQ a0 zs0)) (V3 : FodC w5 (fun b => w4.heap.size + 1 ≤ b ∧ b < w5.heap.size) rv (inQ a3 zs3)) (M : MadS w6 (w5.heap.size + 1) n1 n2 ng ss ts lns vs us) (hg : w5.heap.size + 1 + 3 < ng) (hb : Below (w5.heap.size + 1) (w5.alloc (.cells #[rv] 28)) w6) :
    ArgS ((w6.alloc (.cells #[.slice (some ⟨w5.heap.size + 1 + 1 + 1, 0, none⟩) n1 n1, .slice (some ⟨ng, 0, none⟩) n2 n2, .slice (some ⟨w5.heap.size + 1 + 1 + 1 + 1, 0, none⟩) n1 n1] 78)).alloc (.cells #[] 52)) (fun b => b = w4.heap.size ∨ b = w5.heap.size ∨ b = ng ∨ b ∈ lns) (w6.heap.size + 1) w4.heap.size w5.heap.size w6.heap.size (w5.heap.size + 1 + 1 + 1) ng n1 n2 lns lv rv (.slice (some ⟨w5.heap.size + 1 + 1 + 1 + 1, 0, none⟩) n1 n1) vs us (zs0.map QE.le) (zs3.map QE.le) (ss.map fun s => s.zs.map QE.le) (ts.map fun s => s.zs.map QE.le) := by
  obtain ⟨C, hC⟩ : ∃ C : Array Value, C = #[.slice (some ⟨w5.heap.size + 1 + 1 + 1, 0, none⟩) n1 n1, .slice (some ⟨ng, 0, none⟩) n2 n2, .slice (some ⟨w5.heap.size + 1 + 1 + 1 + 1, 0, none⟩) n1 n1] := ⟨_, rfl⟩
  rw [← hC]
  obtain ⟨l1, l2, l3, ma, ml, mn, lit, mit, rl, dj, fp, fn⟩ := M
  have hnl := mn.lt
  have hc : Blk ((w6.alloc (.cells C 78)).alloc (.cells #[] 52)) (w6.heap.size + 1) 52 #[] := by have := Blk.new (w6.alloc (.cells C 78)) 52 #[]; simpa using this
  have fr6 : Fr w6 ((w6.alloc (.cells C 78)).alloc (.cells #[] 52)) (fun _ => False) := ((Fr.refl w6 _).alloc _).alloc _
  have e5 : (w5.alloc (.cells #[rv] 28)).heap.size = w5.heap.size + 1 := by simp
  have fr5 : Fr (w5.alloc (.cells #[rv] 28)) ((w6.alloc (.cells C 78)).alloc (.cells #[] 52)) (fun _ => False) := ((Fr.of_below (by rw [e5]; exact hb) _).alloc _).alloc _
  have fr55 : Fr w5 ((w6.alloc (.cells C 78)).alloc (.cells #[] 52)) (fun _ => False) := ((Fr.refl w5 _).alloc _).trans fr5
  have hszW : ((w6.alloc (.cells C 78)).alloc (.cells #[] 52)).heap.size = w6.heap.size + 2 := by simp
  have hrl : ∀ ln ∈ lns, w5.heap.size + 4 < ln ∧ ln < ng := fun ln h => by have := rl ln h; omega
  have hx0 : ∀ b, b < w4.heap.size → ¬ (b = w4.heap.size ∨ b = w5.heap.size ∨ b = ng ∨ b ∈ lns) := fun b hb h => by
    rcases h with h | h | h | h
    · omega
    · omega
    · omega
    · have := hrl b h; omega
  have hx3 : ∀ b, (w4.heap.size + 1 ≤ b ∧ b < w5.heap.size) → ¬ (b = w4.heap.size ∨ b = w5.heap.size ∨ b = ng ∨ b ∈ lns) := fun b hb h => by
    rcases h with h | h | h | h
    · omega
    · omega
    · omega
    · have := hrl b h; omega
  have hxp : ∀ b, (w5.heap.size + 1 + 3 < b ∧ b < ng ∧ b ∉ lns) → ¬ (b = w4.heap.size ∨ b = w5.heap.size ∨ b = ng ∨ b ∈ lns) := fun b hb h => by
    rcases h with h | h | h | h
    · omega
    · omega
    · omega
    · exact hb.2.2 h
  have hxn : ∀ b, ng < b → ¬ (b = w4.heap.size ∨ b = w5.heap.size ∨ b = ng ∨ b ∈ lns) := fun b hb h => by
    rcases h with h | h | h | h
    · omega
    · omega
    · omega
    · have := hrl b h; omega
  have hxq : ∀ b, (w5.heap.size < b ∧ b ≤ w5.heap.size + 4) → ¬ (b = w4.heap.size ∨ b = w5.heap.size ∨ b = ng ∨ b ∈ lns) := fun b hb h => by
    rcases h with h | h | h | h
    · omega
    · omega
    · omega
    · have := hrl b h; omega
  refine ⟨hc, fr55.blk L5 (fun h => h), fr5.blk (Blk.new w5 28 #[rv]) (fun h => h), by rw [hC]; exact (Blk.new w6 78 _).alloc _, fr6.blk ma (fun h => h), fr6.blk mn (fun h => h), fun i ln v h1 h2 => fr6.blk (lit i ln v h1 h2) (fun h => h), fun i p h1 => ?_,
    ⟨inQ a0 zs0, ?_, hq0, fun _ => ?_⟩, ⟨inQ a3 zs3, ?_, hq3, fun _ => ?_⟩, ?_, ?_, l1, l2, by rw [List.length_map]; exact hl1, l3, by rw [List.length_map]; exact hl2, ?_, ⟨.inl rfl, .inr (.inl rfl), .inr (.inr (.inl rfl)), fun ln h => .inr (.inr (.inr h))⟩, ⟨hxn _ (by omega), hxn _ hnl, hxq _ ⟨by omega, by omega⟩⟩, ⟨by omega, by omega, by omega⟩, ?_, ?_⟩
  · obtain ⟨m1, m2, m3⟩ := mit i p h1
    exact ⟨fr6.blk m1 (fun h => h), hxn _ m2, by omega⟩
  · exact (V0.fodV.keep (fr55.agree fun b hb => ⟨by have : b < w4.heap.size := hb; omega, fun h => h⟩)).sub fun b hb => ⟨by have : b < w4.heap.size := hb; rw [hszW]; have := hb; omega, hx0 b hb⟩
  · exact (V0.keep (fr55.agree fun b hb => ⟨by have : b < w4.heap.size := hb; omega, fun h => h⟩)).sub fun b hb => ⟨by have : b < w4.heap.size := hb; rw [hszW]; have := hb; omega, hx0 b hb⟩
  · exact (V3.fodV.keep (fr55.agree fun b hb => ⟨hb.2, fun h => h⟩)).sub fun b hb => ⟨by have := hb.2; rw [hszW]; omega, hx3 b hb⟩
  · exact (V3.keep (fr55.agree fun b hb => ⟨hb.2, fun h => h⟩)).sub fun b hb => ⟨by have := hb.2; rw [hszW]; omega, hx3 b hb⟩
  · intro i v es h1 h2
    rw [List.getElem?_map] at h2
    obtain ⟨s, hs, rfl⟩ := Option.map_eq_some_iff.1 h2
    have hf := fp i v s h1 hs
    exact ⟨inQ s.a s.zs, (hf.fodV.keep (fr6.agree fun b hb => ⟨by have := hb.2.1; omega, fun h => h⟩)).sub fun b hb => ⟨by have := hb.2.1; rw [hszW]; omega, hxp b hb⟩, hqs s (List.mem_of_getElem? hs), fun _ => (hf.keep (fr6.agree fun b hb => ⟨by have := hb.2.1; omega, fun h => h⟩)).sub fun b hb => ⟨by have := hb.2.1; rw [hszW]; omega, hxp b hb⟩⟩
  · intro i p es h1 h2
    rw [List.getElem?_map] at h2
    obtain ⟨s, hs, rfl⟩ := Option.map_eq_some_iff.1 h2
    have hf := fn i p s h1 hs
    exact ⟨inQ s.a s.zs, (hf.fodV.keep (fr6.agree fun b hb => ⟨hb.2, fun h => h⟩)).sub fun b hb => ⟨by have := hb.2; rw [hszW]; omega, hxn b hb.1⟩, hqt s (List.mem_of_getElem? hs), fun _ => (hf.keep (fr6.agree fun b hb => ⟨hb.2, fun h => h⟩)).sub fun b hb => ⟨by have := hb.2; rw [hszW]; omega, hxn b hb.1⟩⟩
  · intro b hb
    rw [hszW]
    rcases hb with h | h | h | h
    · omega
    · omega
    · omega
    · have := hrl b h; omega
  · intro ln h
    have := hrl ln h
    exact ⟨by omega, by omega, by omega⟩
  · intro i j a h1 h2
    exact nodup_at dj h1 h2
end Go.Proofs.YtlaghkppjdphnaaFmt
