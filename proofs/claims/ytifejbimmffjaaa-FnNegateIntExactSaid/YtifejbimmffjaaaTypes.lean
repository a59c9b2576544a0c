/- What the type tests of this program answer at an int, a float64 and a pointer to a big integer. -/
import Derived.Test.YtifejbimmffjaaaProg
import Derived.WalkKit
import Derived.KernelRfl
namespace Go.Proofs.Ytifejbimmffjaaa.types
theorem i_i (x : Value) (w : World) : (Instr.typeAssert (.iface 3 x) 20 3 true).run Try.prog w = .ok (.tuple #[x, .bool true]) w := by kernel_rfl
theorem f_i (x : Value) (w : World) : (Instr.typeAssert (.iface 31 x) 20 3 true).run Try.prog w = .ok (.tuple #[.int .i64 0, .bool false]) w := by kernel_rfl
theorem f_f (x : Value) (w : World) : (Instr.typeAssert (.iface 31 x) 20 31 true).run Try.prog w = .ok (.tuple #[x, .bool true]) w := by kernel_rfl
theorem b_i (x : Value) (w : World) : (Instr.typeAssert (.iface 42 x) 20 3 true).run Try.prog w = .ok (.tuple #[.int .i64 0, .bool false]) w := by kernel_rfl
theorem b_f (x : Value) (w : World) : (Instr.typeAssert (.iface 42 x) 20 31 true).run Try.prog w = .ok (.tuple #[.float .f64 0, .bool false]) w := by kernel_rfl
theorem b_b (x : Value) (w : World) : (Instr.typeAssert (.iface 42 x) 20 42 true).run Try.prog w = .ok (.tuple #[x, .bool true]) w := by kernel_rfl
end Go.Proofs.Ytifejbimmffjaaa.types
