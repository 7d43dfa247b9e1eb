/- What a type assertion of a node gives, type by type. -/
import Derived.Test.YtginajepkfndoaaCom
namespace Go.Proofs.Ytginajepkfndoaa
open Go.RowKit
set_option linter.unusedVariables false

@[go_sem] theorem ta22_80 (p : Option Addr) (w : World) : (Instr.typeAssert (.iface 22 (.pointer p)) 29 80 true).run Try.prog w = .ok (.tuple #[.pointer none, .bool false]) w := by kernel_rfl
@[go_sem] theorem ta64_80 (p : Option Addr) (w : World) : (Instr.typeAssert (.iface 64 (.pointer p)) 29 80 true).run Try.prog w = .ok (.tuple #[.pointer none, .bool false]) w := by kernel_rfl
@[go_sem] theorem ta68_80 (p : Option Addr) (w : World) : (Instr.typeAssert (.iface 68 (.pointer p)) 29 80 true).run Try.prog w = .ok (.tuple #[.pointer none, .bool false]) w := by kernel_rfl
@[go_sem] theorem ta71_80 (p : Option Addr) (w : World) : (Instr.typeAssert (.iface 71 (.pointer p)) 29 80 true).run Try.prog w = .ok (.tuple #[.pointer none, .bool false]) w := by kernel_rfl
@[go_sem] theorem ta73_80 (p : Option Addr) (w : World) : (Instr.typeAssert (.iface 73 (.pointer p)) 29 80 true).run Try.prog w = .ok (.tuple #[.pointer none, .bool false]) w := by kernel_rfl
@[go_sem] theorem ta76_80 (p : Option Addr) (w : World) : (Instr.typeAssert (.iface 76 (.pointer p)) 29 80 true).run Try.prog w = .ok (.tuple #[.pointer none, .bool false]) w := by kernel_rfl
@[go_sem] theorem ta80_80 (p : Option Addr) (w : World) : (Instr.typeAssert (.iface 80 (.pointer p)) 29 80 true).run Try.prog w = .ok (.tuple #[.pointer p, .bool true]) w := by kernel_rfl
@[go_sem] theorem ta87_80 (p : Option Addr) (w : World) : (Instr.typeAssert (.iface 87 (.pointer p)) 29 80 true).run Try.prog w = .ok (.tuple #[.pointer none, .bool false]) w := by kernel_rfl
@[go_sem] theorem ta90_80 (p : Option Addr) (w : World) : (Instr.typeAssert (.iface 90 (.pointer p)) 29 80 true).run Try.prog w = .ok (.tuple #[.pointer none, .bool false]) w := by kernel_rfl
@[go_sem] theorem ta94_80 (p : Option Addr) (w : World) : (Instr.typeAssert (.iface 94 (.pointer p)) 29 80 true).run Try.prog w = .ok (.tuple #[.pointer none, .bool false]) w := by kernel_rfl
@[go_sem] theorem ta97_80 (p : Option Addr) (w : World) : (Instr.typeAssert (.iface 97 (.pointer p)) 29 80 true).run Try.prog w = .ok (.tuple #[.pointer none, .bool false]) w := by kernel_rfl
@[go_sem] theorem ta103_80 (p : Option Addr) (w : World) : (Instr.typeAssert (.iface 103 (.pointer p)) 29 80 true).run Try.prog w = .ok (.tuple #[.pointer none, .bool false]) w := by kernel_rfl
@[go_sem] theorem ta106_80 (p : Option Addr) (w : World) : (Instr.typeAssert (.iface 106 (.pointer p)) 29 80 true).run Try.prog w = .ok (.tuple #[.pointer none, .bool false]) w := by kernel_rfl
@[go_sem] theorem tan_80 (w : World) : (Instr.typeAssert .nilIface 29 80 true).run Try.prog w = .ok (.tuple #[.pointer none, .bool false]) w := by kernel_rfl
@[go_sem] theorem ta22_87 (p : Option Addr) (w : World) : (Instr.typeAssert (.iface 22 (.pointer p)) 29 87 true).run Try.prog w = .ok (.tuple #[.pointer none, .bool false]) w := by kernel_rfl
@[go_sem] theorem ta64_87 (p : Option Addr) (w : World) : (Instr.typeAssert (.iface 64 (.pointer p)) 29 87 true).run Try.prog w = .ok (.tuple #[.pointer none, .bool false]) w := by kernel_rfl
@[go_sem] theorem ta68_87 (p : Option Addr) (w : World) : (Instr.typeAssert (.iface 68 (.pointer p)) 29 87 true).run Try.prog w = .ok (.tuple #[.pointer none, .bool false]) w := by kernel_rfl
@[go_sem] theorem ta71_87 (p : Option Addr) (w : World) : (Instr.typeAssert (.iface 71 (.pointer p)) 29 87 true).run Try.prog w = .ok (.tuple #[.pointer none, .bool false]) w := by kernel_rfl
@[go_sem] theorem ta73_87 (p : Option Addr) (w : World) : (Instr.typeAssert (.iface 73 (.pointer p)) 29 87 true).run Try.prog w = .ok (.tuple #[.pointer none, .bool false]) w := by kernel_rfl
@[go_sem] theorem ta76_87 (p : Option Addr) (w : World) : (Instr.typeAssert (.iface 76 (.pointer p)) 29 87 true).run Try.prog w = .ok (.tuple #[.pointer none, .bool false]) w := by kernel_rfl
@[go_sem] theorem ta80_87 (p : Option Addr) (w : World) : (Instr.typeAssert (.iface 80 (.pointer p)) 29 87 true).run Try.prog w = .ok (.tuple #[.pointer none, .bool false]) w := by kernel_rfl
@[go_sem] theorem ta87_87 (p : Option Addr) (w : World) : (Instr.typeAssert (.iface 87 (.pointer p)) 29 87 true).run Try.prog w = .ok (.tuple #[.pointer p, .bool true]) w := by kernel_rfl
@[go_sem] theorem ta90_87 (p : Option Addr) (w : World) : (Instr.typeAssert (.iface 90 (.pointer p)) 29 87 true).run Try.prog w = .ok (.tuple #[.pointer none, .bool false]) w := by kernel_rfl
@[go_sem] theorem ta94_87 (p : Option Addr) (w : World) : (Instr.typeAssert (.iface 94 (.pointer p)) 29 87 true).run Try.prog w = .ok (.tuple #[.pointer none, .bool false]) w := by kernel_rfl
@[go_sem] theorem ta97_87 (p : Option Addr) (w : World) : (Instr.typeAssert (.iface 97 (.pointer p)) 29 87 true).run Try.prog w = .ok (.tuple #[.pointer none, .bool false]) w := by kernel_rfl
@[go_sem] theorem ta103_87 (p : Option Addr) (w : World) : (Instr.typeAssert (.iface 103 (.pointer p)) 29 87 true).run Try.prog w = .ok (.tuple #[.pointer none, .bool false]) w := by kernel_rfl
@[go_sem] theorem ta106_87 (p : Option Addr) (w : World) : (Instr.typeAssert (.iface 106 (.pointer p)) 29 87 true).run Try.prog w = .ok (.tuple #[.pointer none, .bool false]) w := by kernel_rfl
@[go_sem] theorem tan_87 (w : World) : (Instr.typeAssert .nilIface 29 87 true).run Try.prog w = .ok (.tuple #[.pointer none, .bool false]) w := by kernel_rfl
@[go_sem] theorem ta22_22 (p : Option Addr) (w : World) : (Instr.typeAssert (.iface 22 (.pointer p)) 29 22 true).run Try.prog w = .ok (.tuple #[.pointer p, .bool true]) w := by kernel_rfl
@[go_sem] theorem ta64_22 (p : Option Addr) (w : World) : (Instr.typeAssert (.iface 64 (.pointer p)) 29 22 true).run Try.prog w = .ok (.tuple #[.pointer none, .bool false]) w := by kernel_rfl
@[go_sem] theorem ta68_22 (p : Option Addr) (w : World) : (Instr.typeAssert (.iface 68 (.pointer p)) 29 22 true).run Try.prog w = .ok (.tuple #[.pointer none, .bool false]) w := by kernel_rfl
@[go_sem] theorem ta71_22 (p : Option Addr) (w : World) : (Instr.typeAssert (.iface 71 (.pointer p)) 29 22 true).run Try.prog w = .ok (.tuple #[.pointer none, .bool false]) w := by kernel_rfl
@[go_sem] theorem ta73_22 (p : Option Addr) (w : World) : (Instr.typeAssert (.iface 73 (.pointer p)) 29 22 true).run Try.prog w = .ok (.tuple #[.pointer none, .bool false]) w := by kernel_rfl
@[go_sem] theorem ta76_22 (p : Option Addr) (w : World) : (Instr.typeAssert (.iface 76 (.pointer p)) 29 22 true).run Try.prog w = .ok (.tuple #[.pointer none, .bool false]) w := by kernel_rfl
@[go_sem] theorem ta80_22 (p : Option Addr) (w : World) : (Instr.typeAssert (.iface 80 (.pointer p)) 29 22 true).run Try.prog w = .ok (.tuple #[.pointer none, .bool false]) w := by kernel_rfl
@[go_sem] theorem ta87_22 (p : Option Addr) (w : World) : (Instr.typeAssert (.iface 87 (.pointer p)) 29 22 true).run Try.prog w = .ok (.tuple #[.pointer none, .bool false]) w := by kernel_rfl
@[go_sem] theorem ta90_22 (p : Option Addr) (w : World) : (Instr.typeAssert (.iface 90 (.pointer p)) 29 22 true).run Try.prog w = .ok (.tuple #[.pointer none, .bool false]) w := by kernel_rfl
@[go_sem] theorem ta94_22 (p : Option Addr) (w : World) : (Instr.typeAssert (.iface 94 (.pointer p)) 29 22 true).run Try.prog w = .ok (.tuple #[.pointer none, .bool false]) w := by kernel_rfl
@[go_sem] theorem ta97_22 (p : Option Addr) (w : World) : (Instr.typeAssert (.iface 97 (.pointer p)) 29 22 true).run Try.prog w = .ok (.tuple #[.pointer none, .bool false]) w := by kernel_rfl
@[go_sem] theorem ta103_22 (p : Option Addr) (w : World) : (Instr.typeAssert (.iface 103 (.pointer p)) 29 22 true).run Try.prog w = .ok (.tuple #[.pointer none, .bool false]) w := by kernel_rfl
@[go_sem] theorem ta106_22 (p : Option Addr) (w : World) : (Instr.typeAssert (.iface 106 (.pointer p)) 29 22 true).run Try.prog w = .ok (.tuple #[.pointer none, .bool false]) w := by kernel_rfl
@[go_sem] theorem tan_22 (w : World) : (Instr.typeAssert .nilIface 29 22 true).run Try.prog w = .ok (.tuple #[.pointer none, .bool false]) w := by kernel_rfl
@[go_sem] theorem ta22_90 (p : Option Addr) (w : World) : (Instr.typeAssert (.iface 22 (.pointer p)) 29 90 true).run Try.prog w = .ok (.tuple #[.pointer none, .bool false]) w := by kernel_rfl
@[go_sem] theorem ta64_90 (p : Option Addr) (w : World) : (Instr.typeAssert (.iface 64 (.pointer p)) 29 90 true).run Try.prog w = .ok (.tuple #[.pointer none, .bool false]) w := by kernel_rfl
@[go_sem] theorem ta68_90 (p : Option Addr) (w : World) : (Instr.typeAssert (.iface 68 (.pointer p)) 29 90 true).run Try.prog w = .ok (.tuple #[.pointer none, .bool false]) w := by kernel_rfl
@[go_sem] theorem ta71_90 (p : Option Addr) (w : World) : (Instr.typeAssert (.iface 71 (.pointer p)) 29 90 true).run Try.prog w = .ok (.tuple #[.pointer none, .bool false]) w := by kernel_rfl
@[go_sem] theorem ta73_90 (p : Option Addr) (w : World) : (Instr.typeAssert (.iface 73 (.pointer p)) 29 90 true).run Try.prog w = .ok (.tuple #[.pointer none, .bool false]) w := by kernel_rfl
@[go_sem] theorem ta76_90 (p : Option Addr) (w : World) : (Instr.typeAssert (.iface 76 (.pointer p)) 29 90 true).run Try.prog w = .ok (.tuple #[.pointer none, .bool false]) w := by kernel_rfl
@[go_sem] theorem ta80_90 (p : Option Addr) (w : World) : (Instr.typeAssert (.iface 80 (.pointer p)) 29 90 true).run Try.prog w = .ok (.tuple #[.pointer none, .bool false]) w := by kernel_rfl
@[go_sem] theorem ta87_90 (p : Option Addr) (w : World) : (Instr.typeAssert (.iface 87 (.pointer p)) 29 90 true).run Try.prog w = .ok (.tuple #[.pointer none, .bool false]) w := by kernel_rfl
@[go_sem] theorem ta90_90 (p : Option Addr) (w : World) : (Instr.typeAssert (.iface 90 (.pointer p)) 29 90 true).run Try.prog w = .ok (.tuple #[.pointer p, .bool true]) w := by kernel_rfl
@[go_sem] theorem ta94_90 (p : Option Addr) (w : World) : (Instr.typeAssert (.iface 94 (.pointer p)) 29 90 true).run Try.prog w = .ok (.tuple #[.pointer none, .bool false]) w := by kernel_rfl
@[go_sem] theorem ta97_90 (p : Option Addr) (w : World) : (Instr.typeAssert (.iface 97 (.pointer p)) 29 90 true).run Try.prog w = .ok (.tuple #[.pointer none, .bool false]) w := by kernel_rfl
@[go_sem] theorem ta103_90 (p : Option Addr) (w : World) : (Instr.typeAssert (.iface 103 (.pointer p)) 29 90 true).run Try.prog w = .ok (.tuple #[.pointer none, .bool false]) w := by kernel_rfl
@[go_sem] theorem ta106_90 (p : Option Addr) (w : World) : (Instr.typeAssert (.iface 106 (.pointer p)) 29 90 true).run Try.prog w = .ok (.tuple #[.pointer none, .bool false]) w := by kernel_rfl
@[go_sem] theorem tan_90 (w : World) : (Instr.typeAssert .nilIface 29 90 true).run Try.prog w = .ok (.tuple #[.pointer none, .bool false]) w := by kernel_rfl
@[go_sem] theorem ta22_94 (p : Option Addr) (w : World) : (Instr.typeAssert (.iface 22 (.pointer p)) 29 94 true).run Try.prog w = .ok (.tuple #[.pointer none, .bool false]) w := by kernel_rfl
@[go_sem] theorem ta64_94 (p : Option Addr) (w : World) : (Instr.typeAssert (.iface 64 (.pointer p)) 29 94 true).run Try.prog w = .ok (.tuple #[.pointer none, .bool false]) w := by kernel_rfl
@[go_sem] theorem ta68_94 (p : Option Addr) (w : World) : (Instr.typeAssert (.iface 68 (.pointer p)) 29 94 true).run Try.prog w = .ok (.tuple #[.pointer none, .bool false]) w := by kernel_rfl
@[go_sem] theorem ta71_94 (p : Option Addr) (w : World) : (Instr.typeAssert (.iface 71 (.pointer p)) 29 94 true).run Try.prog w = .ok (.tuple #[.pointer none, .bool false]) w := by kernel_rfl
@[go_sem] theorem ta73_94 (p : Option Addr) (w : World) : (Instr.typeAssert (.iface 73 (.pointer p)) 29 94 true).run Try.prog w = .ok (.tuple #[.pointer none, .bool false]) w := by kernel_rfl
@[go_sem] theorem ta76_94 (p : Option Addr) (w : World) : (Instr.typeAssert (.iface 76 (.pointer p)) 29 94 true).run Try.prog w = .ok (.tuple #[.pointer none, .bool false]) w := by kernel_rfl
@[go_sem] theorem ta80_94 (p : Option Addr) (w : World) : (Instr.typeAssert (.iface 80 (.pointer p)) 29 94 true).run Try.prog w = .ok (.tuple #[.pointer none, .bool false]) w := by kernel_rfl
@[go_sem] theorem ta87_94 (p : Option Addr) (w : World) : (Instr.typeAssert (.iface 87 (.pointer p)) 29 94 true).run Try.prog w = .ok (.tuple #[.pointer none, .bool false]) w := by kernel_rfl
@[go_sem] theorem ta90_94 (p : Option Addr) (w : World) : (Instr.typeAssert (.iface 90 (.pointer p)) 29 94 true).run Try.prog w = .ok (.tuple #[.pointer none, .bool false]) w := by kernel_rfl
@[go_sem] theorem ta94_94 (p : Option Addr) (w : World) : (Instr.typeAssert (.iface 94 (.pointer p)) 29 94 true).run Try.prog w = .ok (.tuple #[.pointer p, .bool true]) w := by kernel_rfl
@[go_sem] theorem ta97_94 (p : Option Addr) (w : World) : (Instr.typeAssert (.iface 97 (.pointer p)) 29 94 true).run Try.prog w = .ok (.tuple #[.pointer none, .bool false]) w := by kernel_rfl
@[go_sem] theorem ta103_94 (p : Option Addr) (w : World) : (Instr.typeAssert (.iface 103 (.pointer p)) 29 94 true).run Try.prog w = .ok (.tuple #[.pointer none, .bool false]) w := by kernel_rfl
@[go_sem] theorem ta106_94 (p : Option Addr) (w : World) : (Instr.typeAssert (.iface 106 (.pointer p)) 29 94 true).run Try.prog w = .ok (.tuple #[.pointer none, .bool false]) w := by kernel_rfl
@[go_sem] theorem tan_94 (w : World) : (Instr.typeAssert .nilIface 29 94 true).run Try.prog w = .ok (.tuple #[.pointer none, .bool false]) w := by kernel_rfl
@[go_sem] theorem ta22_97 (p : Option Addr) (w : World) : (Instr.typeAssert (.iface 22 (.pointer p)) 29 97 true).run Try.prog w = .ok (.tuple #[.pointer none, .bool false]) w := by kernel_rfl
@[go_sem] theorem ta64_97 (p : Option Addr) (w : World) : (Instr.typeAssert (.iface 64 (.pointer p)) 29 97 true).run Try.prog w = .ok (.tuple #[.pointer none, .bool false]) w := by kernel_rfl
@[go_sem] theorem ta68_97 (p : Option Addr) (w : World) : (Instr.typeAssert (.iface 68 (.pointer p)) 29 97 true).run Try.prog w = .ok (.tuple #[.pointer none, .bool false]) w := by kernel_rfl
@[go_sem] theorem ta71_97 (p : Option Addr) (w : World) : (Instr.typeAssert (.iface 71 (.pointer p)) 29 97 true).run Try.prog w = .ok (.tuple #[.pointer none, .bool false]) w := by kernel_rfl
@[go_sem] theorem ta73_97 (p : Option Addr) (w : World) : (Instr.typeAssert (.iface 73 (.pointer p)) 29 97 true).run Try.prog w = .ok (.tuple #[.pointer none, .bool false]) w := by kernel_rfl
@[go_sem] theorem ta76_97 (p : Option Addr) (w : World) : (Instr.typeAssert (.iface 76 (.pointer p)) 29 97 true).run Try.prog w = .ok (.tuple #[.pointer none, .bool false]) w := by kernel_rfl
@[go_sem] theorem ta80_97 (p : Option Addr) (w : World) : (Instr.typeAssert (.iface 80 (.pointer p)) 29 97 true).run Try.prog w = .ok (.tuple #[.pointer none, .bool false]) w := by kernel_rfl
@[go_sem] theorem ta87_97 (p : Option Addr) (w : World) : (Instr.typeAssert (.iface 87 (.pointer p)) 29 97 true).run Try.prog w = .ok (.tuple #[.pointer none, .bool false]) w := by kernel_rfl
@[go_sem] theorem ta90_97 (p : Option Addr) (w : World) : (Instr.typeAssert (.iface 90 (.pointer p)) 29 97 true).run Try.prog w = .ok (.tuple #[.pointer none, .bool false]) w := by kernel_rfl
@[go_sem] theorem ta94_97 (p : Option Addr) (w : World) : (Instr.typeAssert (.iface 94 (.pointer p)) 29 97 true).run Try.prog w = .ok (.tuple #[.pointer none, .bool false]) w := by kernel_rfl
@[go_sem] theorem ta97_97 (p : Option Addr) (w : World) : (Instr.typeAssert (.iface 97 (.pointer p)) 29 97 true).run Try.prog w = .ok (.tuple #[.pointer p, .bool true]) w := by kernel_rfl
@[go_sem] theorem ta103_97 (p : Option Addr) (w : World) : (Instr.typeAssert (.iface 103 (.pointer p)) 29 97 true).run Try.prog w = .ok (.tuple #[.pointer none, .bool false]) w := by kernel_rfl
@[go_sem] theorem ta106_97 (p : Option Addr) (w : World) : (Instr.typeAssert (.iface 106 (.pointer p)) 29 97 true).run Try.prog w = .ok (.tuple #[.pointer none, .bool false]) w := by kernel_rfl
@[go_sem] theorem tan_97 (w : World) : (Instr.typeAssert .nilIface 29 97 true).run Try.prog w = .ok (.tuple #[.pointer none, .bool false]) w := by kernel_rfl
end Go.Proofs.Ytginajepkfndoaa
