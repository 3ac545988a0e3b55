import Derived.Test.YtlokbaljkmblaaaN
import Derived.Stop.Asserts
namespace Go.Proofs.Ytlokbaljkmblaaa
open Go.RowKit Go.Lab

theorem meth_ID (x : Int) (w : World) : (method 238 58 (.int .i64 x) "ID").run Try.prog w = .ok (86, .int .i64 x) w := by kernel_rfl
theorem meth_NodeD (a : Addr) (w : World) : (method 238 47 (.agg #[.pointer (some a)]) "Node").run Try.prog w = .ok (72, .agg #[.pointer (some a)]) w := by kernel_rfl
theorem meth_NodeU (a : Addr) (w : World) : (method 238 48 (.agg #[.pointer (some a)]) "Node").run Try.prog w = .ok (82, .agg #[.pointer (some a)]) w := by kernel_rfl
theorem meth_From (a : Addr) (w : World) : (method 238 47 (.agg #[.pointer (some a)]) "HasEdgeFromTo").run Try.prog w = .ok (71, .agg #[.pointer (some a)]) w := by kernel_rfl
theorem meth_Between (a : Addr) (w : World) : (method 238 48 (.agg #[.pointer (some a)]) "HasEdgeBetween").run Try.prog w = .ok (81, .agg #[.pointer (some a)]) w := by kernel_rfl
theorem assertD (a : Addr) (w : World) : (Instr.typeAssert (.iface 47 (.agg #[.pointer (some a)])) 50 57 true).run Try.prog w = .ok (.tuple #[.iface 47 (.agg #[.pointer (some a)]), .bool true]) w := by kernel_rfl
theorem assertU (a : Addr) (w : World) : (Instr.typeAssert (.iface 48 (.agg #[.pointer (some a)])) 50 57 true).run Try.prog w = .ok (.tuple #[.nilIface, .bool false]) w := run_typeAssert_lacksB Try.underlying57 (by kernel_rfl) (by kernel_rfl) _ _ w
theorem nil_NodeD (a : Addr) (w : World) : (nilAhead 238 47 (.agg #[.pointer (some a)]) "Node").run Try.prog w = .ok (some false) w := by kernel_rfl
theorem nil_NodeU (a : Addr) (w : World) : (nilAhead 238 48 (.agg #[.pointer (some a)]) "Node").run Try.prog w = .ok (some false) w := by kernel_rfl
theorem nil_From (a : Addr) (w : World) : (nilAhead 238 47 (.agg #[.pointer (some a)]) "HasEdgeFromTo").run Try.prog w = .ok (some false) w := by kernel_rfl
theorem nil_Between (a : Addr) (w : World) : (nilAhead 238 48 (.agg #[.pointer (some a)]) "HasEdgeBetween").run Try.prog w = .ok (some false) w := by kernel_rfl
end Go.Proofs.Ytlokbaljkmblaaa
