import Derived.Test.Qxb6614339aRows
import Derived.WalkKit
namespace Go.Proofs.Qxb6614339a

theorem ta54_59 (v : Value) (w : World) : (Instr.typeAssert (.iface 54 v) 48 59 true).run Try.prog w = .ok (.tuple #[.pointer none, .bool false]) w := by kernel_rfl
theorem ta54_63 (v : Value) (w : World) : (Instr.typeAssert (.iface 54 v) 48 63 true).run Try.prog w = .ok (.tuple #[.pointer none, .bool false]) w := by kernel_rfl
theorem ta54_66 (v : Value) (w : World) : (Instr.typeAssert (.iface 54 v) 48 66 true).run Try.prog w = .ok (.tuple #[.pointer none, .bool false]) w := by kernel_rfl
theorem ta54_73 (v : Value) (w : World) : (Instr.typeAssert (.iface 54 v) 48 73 true).run Try.prog w = .ok (.tuple #[.pointer none, .bool false]) w := by kernel_rfl
theorem ta54_75 (v : Value) (w : World) : (Instr.typeAssert (.iface 54 v) 48 75 true).run Try.prog w = .ok (.tuple #[.pointer none, .bool false]) w := by kernel_rfl
theorem ta54_77 (v : Value) (w : World) : (Instr.typeAssert (.iface 54 v) 48 77 true).run Try.prog w = .ok (.tuple #[.pointer none, .bool false]) w := by kernel_rfl
theorem ta54_35 (v : Value) (w : World) : (Instr.typeAssert (.iface 54 v) 48 35 true).run Try.prog w = .ok (.tuple #[.pointer none, .bool false]) w := by kernel_rfl
theorem ta54_24 (v : Value) (w : World) : (Instr.typeAssert (.iface 54 v) 48 24 true).run Try.prog w = .ok (.tuple #[.pointer none, .bool false]) w := by kernel_rfl
theorem ta54_45 (v : Value) (w : World) : (Instr.typeAssert (.iface 54 v) 48 45 true).run Try.prog w = .ok (.tuple #[.pointer none, .bool false]) w := by kernel_rfl
theorem ta54_51 (v : Value) (w : World) : (Instr.typeAssert (.iface 54 v) 48 51 true).run Try.prog w = .ok (.tuple #[.pointer none, .bool false]) w := by kernel_rfl
theorem ta35_59 (v : Value) (w : World) : (Instr.typeAssert (.iface 35 v) 48 59 true).run Try.prog w = .ok (.tuple #[.pointer none, .bool false]) w := by kernel_rfl
theorem ta35_63 (v : Value) (w : World) : (Instr.typeAssert (.iface 35 v) 48 63 true).run Try.prog w = .ok (.tuple #[.pointer none, .bool false]) w := by kernel_rfl
theorem ta35_66 (v : Value) (w : World) : (Instr.typeAssert (.iface 35 v) 48 66 true).run Try.prog w = .ok (.tuple #[.pointer none, .bool false]) w := by kernel_rfl
theorem ta35_73 (v : Value) (w : World) : (Instr.typeAssert (.iface 35 v) 48 73 true).run Try.prog w = .ok (.tuple #[.pointer none, .bool false]) w := by kernel_rfl
theorem ta35_75 (v : Value) (w : World) : (Instr.typeAssert (.iface 35 v) 48 75 true).run Try.prog w = .ok (.tuple #[.pointer none, .bool false]) w := by kernel_rfl
theorem ta35_77 (v : Value) (w : World) : (Instr.typeAssert (.iface 35 v) 48 77 true).run Try.prog w = .ok (.tuple #[.pointer none, .bool false]) w := by kernel_rfl
theorem ta35_35 (a : Option Addr) (w : World) : (Instr.typeAssert (.iface 35 (.pointer a)) 48 35 true).run Try.prog w = .ok (.tuple #[.pointer a, .bool true]) w := by kernel_rfl
theorem ta35_24 (v : Value) (w : World) : (Instr.typeAssert (.iface 35 v) 48 24 true).run Try.prog w = .ok (.tuple #[.pointer none, .bool false]) w := by kernel_rfl
theorem ta35_45 (v : Value) (w : World) : (Instr.typeAssert (.iface 35 v) 48 45 true).run Try.prog w = .ok (.tuple #[.pointer none, .bool false]) w := by kernel_rfl
theorem ta35_51 (v : Value) (w : World) : (Instr.typeAssert (.iface 35 v) 48 51 true).run Try.prog w = .ok (.tuple #[.pointer none, .bool false]) w := by kernel_rfl
theorem ta45_59 (v : Value) (w : World) : (Instr.typeAssert (.iface 45 v) 48 59 true).run Try.prog w = .ok (.tuple #[.pointer none, .bool false]) w := by kernel_rfl
theorem ta45_63 (v : Value) (w : World) : (Instr.typeAssert (.iface 45 v) 48 63 true).run Try.prog w = .ok (.tuple #[.pointer none, .bool false]) w := by kernel_rfl
theorem ta45_66 (v : Value) (w : World) : (Instr.typeAssert (.iface 45 v) 48 66 true).run Try.prog w = .ok (.tuple #[.pointer none, .bool false]) w := by kernel_rfl
theorem ta45_73 (v : Value) (w : World) : (Instr.typeAssert (.iface 45 v) 48 73 true).run Try.prog w = .ok (.tuple #[.pointer none, .bool false]) w := by kernel_rfl
theorem ta45_75 (v : Value) (w : World) : (Instr.typeAssert (.iface 45 v) 48 75 true).run Try.prog w = .ok (.tuple #[.pointer none, .bool false]) w := by kernel_rfl
theorem ta45_77 (v : Value) (w : World) : (Instr.typeAssert (.iface 45 v) 48 77 true).run Try.prog w = .ok (.tuple #[.pointer none, .bool false]) w := by kernel_rfl
theorem ta45_35 (v : Value) (w : World) : (Instr.typeAssert (.iface 45 v) 48 35 true).run Try.prog w = .ok (.tuple #[.pointer none, .bool false]) w := by kernel_rfl
theorem ta45_24 (v : Value) (w : World) : (Instr.typeAssert (.iface 45 v) 48 24 true).run Try.prog w = .ok (.tuple #[.pointer none, .bool false]) w := by kernel_rfl
theorem ta45_45 (a : Option Addr) (w : World) : (Instr.typeAssert (.iface 45 (.pointer a)) 48 45 true).run Try.prog w = .ok (.tuple #[.pointer a, .bool true]) w := by kernel_rfl
theorem ta45_51 (v : Value) (w : World) : (Instr.typeAssert (.iface 45 v) 48 51 true).run Try.prog w = .ok (.tuple #[.pointer none, .bool false]) w := by kernel_rfl
theorem ta24_59 (v : Value) (w : World) : (Instr.typeAssert (.iface 24 v) 48 59 true).run Try.prog w = .ok (.tuple #[.pointer none, .bool false]) w := by kernel_rfl
theorem ta24_63 (v : Value) (w : World) : (Instr.typeAssert (.iface 24 v) 48 63 true).run Try.prog w = .ok (.tuple #[.pointer none, .bool false]) w := by kernel_rfl
theorem ta24_66 (v : Value) (w : World) : (Instr.typeAssert (.iface 24 v) 48 66 true).run Try.prog w = .ok (.tuple #[.pointer none, .bool false]) w := by kernel_rfl
theorem ta24_73 (v : Value) (w : World) : (Instr.typeAssert (.iface 24 v) 48 73 true).run Try.prog w = .ok (.tuple #[.pointer none, .bool false]) w := by kernel_rfl
theorem ta24_75 (v : Value) (w : World) : (Instr.typeAssert (.iface 24 v) 48 75 true).run Try.prog w = .ok (.tuple #[.pointer none, .bool false]) w := by kernel_rfl
theorem ta24_77 (v : Value) (w : World) : (Instr.typeAssert (.iface 24 v) 48 77 true).run Try.prog w = .ok (.tuple #[.pointer none, .bool false]) w := by kernel_rfl
theorem ta24_35 (v : Value) (w : World) : (Instr.typeAssert (.iface 24 v) 48 35 true).run Try.prog w = .ok (.tuple #[.pointer none, .bool false]) w := by kernel_rfl
theorem ta24_24 (a : Option Addr) (w : World) : (Instr.typeAssert (.iface 24 (.pointer a)) 48 24 true).run Try.prog w = .ok (.tuple #[.pointer a, .bool true]) w := by kernel_rfl
theorem ta24_45 (v : Value) (w : World) : (Instr.typeAssert (.iface 24 v) 48 45 true).run Try.prog w = .ok (.tuple #[.pointer none, .bool false]) w := by kernel_rfl
theorem ta24_51 (v : Value) (w : World) : (Instr.typeAssert (.iface 24 v) 48 51 true).run Try.prog w = .ok (.tuple #[.pointer none, .bool false]) w := by kernel_rfl
theorem ta51_51 (a : Option Addr) (w : World) : (Instr.typeAssert (.iface 51 (.pointer a)) 48 51 true).run Try.prog w = .ok (.tuple #[.pointer a, .bool true]) w := by kernel_rfl
end Go.Proofs.Qxb6614339a
