/- Type assertions on the interface expr, at the dynamic types that the chain has. -/
import Derived.Test.Qxb6614485aRows
import Derived.WalkKit
namespace Go.Proofs.Qxb6614485a
theorem as_53_53 (v : Value) (w : World) : (Instr.typeAssert (.iface 53 v) 27 53 true).run Try.prog w = .ok (.tuple #[v, .bool true]) w := by kernel_rfl
theorem as_53_82 (v : Value) (w : World) : (Instr.typeAssert (.iface 53 v) 27 82 true).run Try.prog w = .ok (.tuple #[.pointer none, .bool false]) w := by kernel_rfl
theorem as_53_86 (v : Value) (w : World) : (Instr.typeAssert (.iface 53 v) 27 86 true).run Try.prog w = .ok (.tuple #[.slice none 0 0, .bool false]) w := by kernel_rfl
theorem as_53_43 (v : Value) (w : World) : (Instr.typeAssert (.iface 53 v) 27 43 true).run Try.prog w = .ok (.tuple #[.slice none 0 0, .bool false]) w := by kernel_rfl
theorem as_53_59 (v : Value) (w : World) : (Instr.typeAssert (.iface 53 v) 27 59 true).run Try.prog w = .ok (.tuple #[.pointer none, .bool false]) w := by kernel_rfl
theorem as_53_87 (v : Value) (w : World) : (Instr.typeAssert (.iface 53 v) 27 87 true).run Try.prog w = .ok (.tuple #[.pointer none, .bool false]) w := by kernel_rfl
theorem as_53_50 (v : Value) (w : World) : (Instr.typeAssert (.iface 53 v) 27 50 true).run Try.prog w = .ok (.tuple #[.pointer none, .bool false]) w := by kernel_rfl
theorem as_53_91 (v : Value) (w : World) : (Instr.typeAssert (.iface 53 v) 27 91 true).run Try.prog w = .ok (.tuple #[.pointer none, .bool false]) w := by kernel_rfl
theorem as_53_56 (v : Value) (w : World) : (Instr.typeAssert (.iface 53 v) 27 56 true).run Try.prog w = .ok (.tuple #[.pointer none, .bool false]) w := by kernel_rfl
theorem as_53_62 (v : Value) (w : World) : (Instr.typeAssert (.iface 53 v) 27 62 true).run Try.prog w = .ok (.tuple #[.pointer none, .bool false]) w := by kernel_rfl
theorem as_50_53 (v : Value) (w : World) : (Instr.typeAssert (.iface 50 v) 27 53 true).run Try.prog w = .ok (.tuple #[.agg #[.bool false, .int .i64 0], .bool false]) w := by kernel_rfl
theorem as_50_82 (v : Value) (w : World) : (Instr.typeAssert (.iface 50 v) 27 82 true).run Try.prog w = .ok (.tuple #[.pointer none, .bool false]) w := by kernel_rfl
theorem as_50_86 (v : Value) (w : World) : (Instr.typeAssert (.iface 50 v) 27 86 true).run Try.prog w = .ok (.tuple #[.slice none 0 0, .bool false]) w := by kernel_rfl
theorem as_50_43 (v : Value) (w : World) : (Instr.typeAssert (.iface 50 v) 27 43 true).run Try.prog w = .ok (.tuple #[.slice none 0 0, .bool false]) w := by kernel_rfl
theorem as_50_59 (v : Value) (w : World) : (Instr.typeAssert (.iface 50 v) 27 59 true).run Try.prog w = .ok (.tuple #[.pointer none, .bool false]) w := by kernel_rfl
theorem as_50_87 (v : Value) (w : World) : (Instr.typeAssert (.iface 50 v) 27 87 true).run Try.prog w = .ok (.tuple #[.pointer none, .bool false]) w := by kernel_rfl
theorem as_50_50 (v : Value) (w : World) : (Instr.typeAssert (.iface 50 v) 27 50 true).run Try.prog w = .ok (.tuple #[v, .bool true]) w := by kernel_rfl
theorem as_50_91 (v : Value) (w : World) : (Instr.typeAssert (.iface 50 v) 27 91 true).run Try.prog w = .ok (.tuple #[.pointer none, .bool false]) w := by kernel_rfl
theorem as_50_56 (v : Value) (w : World) : (Instr.typeAssert (.iface 50 v) 27 56 true).run Try.prog w = .ok (.tuple #[.pointer none, .bool false]) w := by kernel_rfl
theorem as_50_62 (v : Value) (w : World) : (Instr.typeAssert (.iface 50 v) 27 62 true).run Try.prog w = .ok (.tuple #[.pointer none, .bool false]) w := by kernel_rfl
theorem as_56_53 (v : Value) (w : World) : (Instr.typeAssert (.iface 56 v) 27 53 true).run Try.prog w = .ok (.tuple #[.agg #[.bool false, .int .i64 0], .bool false]) w := by kernel_rfl
theorem as_56_82 (v : Value) (w : World) : (Instr.typeAssert (.iface 56 v) 27 82 true).run Try.prog w = .ok (.tuple #[.pointer none, .bool false]) w := by kernel_rfl
theorem as_56_86 (v : Value) (w : World) : (Instr.typeAssert (.iface 56 v) 27 86 true).run Try.prog w = .ok (.tuple #[.slice none 0 0, .bool false]) w := by kernel_rfl
theorem as_56_43 (v : Value) (w : World) : (Instr.typeAssert (.iface 56 v) 27 43 true).run Try.prog w = .ok (.tuple #[.slice none 0 0, .bool false]) w := by kernel_rfl
theorem as_56_59 (v : Value) (w : World) : (Instr.typeAssert (.iface 56 v) 27 59 true).run Try.prog w = .ok (.tuple #[.pointer none, .bool false]) w := by kernel_rfl
theorem as_56_87 (v : Value) (w : World) : (Instr.typeAssert (.iface 56 v) 27 87 true).run Try.prog w = .ok (.tuple #[.pointer none, .bool false]) w := by kernel_rfl
theorem as_56_50 (v : Value) (w : World) : (Instr.typeAssert (.iface 56 v) 27 50 true).run Try.prog w = .ok (.tuple #[.pointer none, .bool false]) w := by kernel_rfl
theorem as_56_91 (v : Value) (w : World) : (Instr.typeAssert (.iface 56 v) 27 91 true).run Try.prog w = .ok (.tuple #[.pointer none, .bool false]) w := by kernel_rfl
theorem as_56_56 (v : Value) (w : World) : (Instr.typeAssert (.iface 56 v) 27 56 true).run Try.prog w = .ok (.tuple #[v, .bool true]) w := by kernel_rfl
theorem as_56_62 (v : Value) (w : World) : (Instr.typeAssert (.iface 56 v) 27 62 true).run Try.prog w = .ok (.tuple #[.pointer none, .bool false]) w := by kernel_rfl
theorem as_59_53 (v : Value) (w : World) : (Instr.typeAssert (.iface 59 v) 27 53 true).run Try.prog w = .ok (.tuple #[.agg #[.bool false, .int .i64 0], .bool false]) w := by kernel_rfl
theorem as_59_82 (v : Value) (w : World) : (Instr.typeAssert (.iface 59 v) 27 82 true).run Try.prog w = .ok (.tuple #[.pointer none, .bool false]) w := by kernel_rfl
theorem as_59_86 (v : Value) (w : World) : (Instr.typeAssert (.iface 59 v) 27 86 true).run Try.prog w = .ok (.tuple #[.slice none 0 0, .bool false]) w := by kernel_rfl
theorem as_59_43 (v : Value) (w : World) : (Instr.typeAssert (.iface 59 v) 27 43 true).run Try.prog w = .ok (.tuple #[.slice none 0 0, .bool false]) w := by kernel_rfl
theorem as_59_59 (v : Value) (w : World) : (Instr.typeAssert (.iface 59 v) 27 59 true).run Try.prog w = .ok (.tuple #[v, .bool true]) w := by kernel_rfl
theorem as_59_87 (v : Value) (w : World) : (Instr.typeAssert (.iface 59 v) 27 87 true).run Try.prog w = .ok (.tuple #[.pointer none, .bool false]) w := by kernel_rfl
theorem as_59_50 (v : Value) (w : World) : (Instr.typeAssert (.iface 59 v) 27 50 true).run Try.prog w = .ok (.tuple #[.pointer none, .bool false]) w := by kernel_rfl
theorem as_59_91 (v : Value) (w : World) : (Instr.typeAssert (.iface 59 v) 27 91 true).run Try.prog w = .ok (.tuple #[.pointer none, .bool false]) w := by kernel_rfl
theorem as_59_56 (v : Value) (w : World) : (Instr.typeAssert (.iface 59 v) 27 56 true).run Try.prog w = .ok (.tuple #[.pointer none, .bool false]) w := by kernel_rfl
theorem as_59_62 (v : Value) (w : World) : (Instr.typeAssert (.iface 59 v) 27 62 true).run Try.prog w = .ok (.tuple #[.pointer none, .bool false]) w := by kernel_rfl
theorem as_62_53 (v : Value) (w : World) : (Instr.typeAssert (.iface 62 v) 27 53 true).run Try.prog w = .ok (.tuple #[.agg #[.bool false, .int .i64 0], .bool false]) w := by kernel_rfl
theorem as_62_82 (v : Value) (w : World) : (Instr.typeAssert (.iface 62 v) 27 82 true).run Try.prog w = .ok (.tuple #[.pointer none, .bool false]) w := by kernel_rfl
theorem as_62_86 (v : Value) (w : World) : (Instr.typeAssert (.iface 62 v) 27 86 true).run Try.prog w = .ok (.tuple #[.slice none 0 0, .bool false]) w := by kernel_rfl
theorem as_62_43 (v : Value) (w : World) : (Instr.typeAssert (.iface 62 v) 27 43 true).run Try.prog w = .ok (.tuple #[.slice none 0 0, .bool false]) w := by kernel_rfl
theorem as_62_59 (v : Value) (w : World) : (Instr.typeAssert (.iface 62 v) 27 59 true).run Try.prog w = .ok (.tuple #[.pointer none, .bool false]) w := by kernel_rfl
theorem as_62_87 (v : Value) (w : World) : (Instr.typeAssert (.iface 62 v) 27 87 true).run Try.prog w = .ok (.tuple #[.pointer none, .bool false]) w := by kernel_rfl
theorem as_62_50 (v : Value) (w : World) : (Instr.typeAssert (.iface 62 v) 27 50 true).run Try.prog w = .ok (.tuple #[.pointer none, .bool false]) w := by kernel_rfl
theorem as_62_91 (v : Value) (w : World) : (Instr.typeAssert (.iface 62 v) 27 91 true).run Try.prog w = .ok (.tuple #[.pointer none, .bool false]) w := by kernel_rfl
theorem as_62_56 (v : Value) (w : World) : (Instr.typeAssert (.iface 62 v) 27 56 true).run Try.prog w = .ok (.tuple #[.pointer none, .bool false]) w := by kernel_rfl
theorem as_62_62 (v : Value) (w : World) : (Instr.typeAssert (.iface 62 v) 27 62 true).run Try.prog w = .ok (.tuple #[v, .bool true]) w := by kernel_rfl
theorem as_43_53 (v : Value) (w : World) : (Instr.typeAssert (.iface 43 v) 27 53 true).run Try.prog w = .ok (.tuple #[.agg #[.bool false, .int .i64 0], .bool false]) w := by kernel_rfl
theorem as_43_82 (v : Value) (w : World) : (Instr.typeAssert (.iface 43 v) 27 82 true).run Try.prog w = .ok (.tuple #[.pointer none, .bool false]) w := by kernel_rfl
theorem as_43_86 (v : Value) (w : World) : (Instr.typeAssert (.iface 43 v) 27 86 true).run Try.prog w = .ok (.tuple #[.slice none 0 0, .bool false]) w := by kernel_rfl
theorem as_43_43 (v : Value) (w : World) : (Instr.typeAssert (.iface 43 v) 27 43 true).run Try.prog w = .ok (.tuple #[v, .bool true]) w := by kernel_rfl
theorem as_43_59 (v : Value) (w : World) : (Instr.typeAssert (.iface 43 v) 27 59 true).run Try.prog w = .ok (.tuple #[.pointer none, .bool false]) w := by kernel_rfl
theorem as_43_87 (v : Value) (w : World) : (Instr.typeAssert (.iface 43 v) 27 87 true).run Try.prog w = .ok (.tuple #[.pointer none, .bool false]) w := by kernel_rfl
theorem as_43_50 (v : Value) (w : World) : (Instr.typeAssert (.iface 43 v) 27 50 true).run Try.prog w = .ok (.tuple #[.pointer none, .bool false]) w := by kernel_rfl
theorem as_43_91 (v : Value) (w : World) : (Instr.typeAssert (.iface 43 v) 27 91 true).run Try.prog w = .ok (.tuple #[.pointer none, .bool false]) w := by kernel_rfl
theorem as_43_56 (v : Value) (w : World) : (Instr.typeAssert (.iface 43 v) 27 56 true).run Try.prog w = .ok (.tuple #[.pointer none, .bool false]) w := by kernel_rfl
theorem as_43_62 (v : Value) (w : World) : (Instr.typeAssert (.iface 43 v) 27 62 true).run Try.prog w = .ok (.tuple #[.pointer none, .bool false]) w := by kernel_rfl
end Go.Proofs.Qxb6614485a
