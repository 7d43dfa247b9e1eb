/- Methods that a pass has of its embedded base: the base lies where the pass lies. -/
import Derived.Test.YtlaghkppjdphnaaFmtEnt
namespace Go.Proofs.YtlaghkppjdphnaaFmt
open Go.RowKit
set_option linter.unusedVariables false

theorem shape_blk {w : World} {c : Nat} {t : TypeId} {cs : Array Value} (h : Blk w c t cs) : w.shape? c = some (t, cs.size) := by
  unfold World.shape?
  rw [show w.heap[c]? = _ from h]
theorem byteOf0 {w : World} {c : Nat} {t : TypeId} {cs : Array Value} {P : Program} (h : Blk w c t cs) (hb : byteOfCell P P.depth t 0 = some 0 ∨ P.cellsOf t = 0) : (byteOf ⟨c, 0, none⟩).run P w = .ok 0 w := by
  unfold byteOf noView viewAt
  by_cases hz : P.cellsOf t = 0
  · simp [shape_blk h, hz]
  · have hb2 : byteOfCell P P.depth t 0 = some 0 := hb.resolve_right hz
    simp [shape_blk h, hz, hb2]
theorem partAt0 {w : World} {c : Nat} {t : TypeId} {cs : Array Value} {P : Program} (h : Blk w c t cs) (hb : byteOfCell P P.depth t 0 = some 0 ∨ P.cellsOf t = 0) : (partAt ⟨c, 0, none⟩ 0 0).run P w = .ok ⟨c, 0, none⟩ w := by
  unfold partAt
  simp [byteOf0 h hb]
theorem method_base {P : Program} {w : World} {t : TypeId} {i : TypeInfo} {m : Method} {st : FieldStep} {fs : Array Field} {f0 : Field} {k : FuncId} {fuel c : Nat} {tb : TypeId} {cs : Array Value} {name : String}
    (h : Blk w c tb cs) (hb : byteOfCell P P.depth tb 0 = some 0 ∨ P.cellsOf tb = 0) (hi : P.info? t = some i) (hm : i.methods.find? (·.name == name) = some m) (hp : m.path = #[st]) (hd : st.deref = true) (hu : P.underlying st.struct = some (.struct fs)) (hf : fs[st.index]? = some f0)
    (hk : m.func = some (k, true)) (hs : P.underlying f0.type = some (.struct #[])) (hsz : (P.info? f0.type).map (·.size) = some 0) (ho : f0.offset = 0) (hbo : f0.byteOffset = 0) :
    (method (fuel + 1) t (.pointer (some ⟨c, 0, none⟩)) name).run P w = .ok (k, .pointer (some ⟨c, 0, none⟩)) w := by
  obtain ⟨i0, hi0, hz0⟩ := Option.map_eq_some_iff.1 hsz
  unfold method
  simp [typeInfo, hi, hm, hp, follow, hd, run_underlying hu, hf, asAddr, fieldPlace, sizeOf, hi0, hz0, ho, hbo, partAt0 h hb, receiverAt, run_underlying hs, hk, Place.get]
/-- The row of a method that is promoted from an empty struct at the head. -/
def baseRow (P : Program) (t : TypeId) (name : String) (k : FuncId) : Bool :=
  match P.info? t with
  | none => false
  | some i =>
    match i.methods.find? (·.name == name) with
    | none => false
    | some m =>
      match m.path.toList, m.func with
      | [st], some (k', true) =>
        st.deref && k' == k &&
        (match P.underlying st.struct with
        | some (.struct fs) =>
          (match fs[st.index]? with
          | some f0 => (match P.underlying f0.type with | some (.struct l) => l.isEmpty | _ => false) && (match P.info? f0.type with | some j => j.size == 0 | none => false) && f0.offset == 0 && f0.byteOffset == 0
          | none => false)
        | _ => false)
      | _, _ => false
theorem method_row {P : Program} {w : World} {t : TypeId} {k : FuncId} {fuel c : Nat} {tb : TypeId} {cs : Array Value} {name : String} (h : Blk w c tb cs) (hb : byteOfCell P P.depth tb 0 = some 0 ∨ P.cellsOf tb = 0) (hr : baseRow P t name k = true) :
    (method (fuel + 1) t (.pointer (some ⟨c, 0, none⟩)) name).run P w = .ok (k, .pointer (some ⟨c, 0, none⟩)) w := by
  unfold baseRow at hr
  split at hr
  · cases hr
  rename_i i hi
  split at hr
  · cases hr
  rename_i m hm
  split at hr
  · rename_i st k' hp hk
    simp only [Bool.and_eq_true] at hr
    obtain ⟨⟨hd, hkk⟩, hr⟩ := hr
    split at hr
    · rename_i fs hu
      split at hr
      · rename_i f0 hf
        simp only [Bool.and_eq_true, beq_iff_eq] at hr hkk
        obtain ⟨⟨⟨h1, h2⟩, h3⟩, h4⟩ := hr
        subst hkk
        split at h1
        · rename_i l hl
          split at h2
          · rename_i j hj
            have hl0 : l = #[] := by simpa using h1
            subst hl0
            exact method_base h hb hi hm (st := st) (Array.toList_inj.1 (by simpa using hp)) hd hu hf hk hl (by rw [hj]; simpa using h2) h3 h4
          · cases h2
        · cases h1
      · cases hr
    · cases hr
  · cases hr
end Go.Proofs.YtlaghkppjdphnaaFmt
