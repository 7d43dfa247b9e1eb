/- topLevelImport over any chain. -/
import Derived.Test.YtljfgplccnaboaaFmtTpn
import Derived.Test.YtljfgplccnaboaaFmtTpl
import Derived.Test.YtljfgplccnaboaaFmtTpb
namespace Go.Proofs.YtljfgplccnaboaaFmt
open Go.RowKit

theorem top25 (tb : Nat) (ns : List NE) : ∀ (w : World) (C G : Nat → Prop) (I lb : Nat) (v : Value) (es : List IE) (ps : List (ByteArray × ByteArray)) (n0 : NE) (body : Value) (o gof : Option Nat) (gv : Value), TopH w C G I tb lb v es ps n0 body ns o gof gv →
    Calls Tryf.prog 25 #[.pointer (some ⟨lb, 0, none⟩), .pointer (some ⟨I, 0, none⟩), gv] w (TopD w I tb v es ps (pvN n0) ns gof) := by
  induction ns with
  | nil => exact fun w C G I lb v es ps n0 body o gof gv h => topLast w C G I tb lb v es ps n0 body o gof gv h
  | cons n ns ih =>
    intro w C G I lb v es ps n0 body o gof gv h
    by_cases hn : n.fod = some 1
    · exact topBrk w C G I tb lb v es ps n0 body n ns o gof gv h ih hn
    · exact topNext w C G I tb lb v es ps n0 body n ns o gof gv h ih hn
end Go.Proofs.YtljfgplccnaboaaFmt
