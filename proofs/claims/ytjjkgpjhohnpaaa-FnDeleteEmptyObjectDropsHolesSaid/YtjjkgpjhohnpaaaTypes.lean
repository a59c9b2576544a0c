/- What the type tests of this program answer; the payload is any value. -/
import Derived.Test.YtjjkgpjhohnpaaaProg
import Derived.WalkKit
import Derived.KernelRfl
namespace Go.Proofs.Ytjjkgpjhohnpaaa.types
theorem ta_3_3 (x : Value) (w : World) : (Instr.typeAssert (.iface 3 x) 20 3 true).run Try.prog w = .ok (.tuple #[x, .bool true]) w := by kernel_rfl
theorem ta_38_3 (x : Value) (w : World) : (Instr.typeAssert (.iface 38 x) 20 3 true).run Try.prog w = .ok (.tuple #[.int .i64 0, .bool false]) w := by kernel_rfl
theorem ta_44_3 (x : Value) (w : World) : (Instr.typeAssert (.iface 44 x) 20 3 true).run Try.prog w = .ok (.tuple #[.int .i64 0, .bool false]) w := by kernel_rfl
theorem ta_nil_3 (w : World) : (Instr.typeAssert .nilIface 20 3 true).run Try.prog w = .ok (.tuple #[.int .i64 0, .bool false]) w := by kernel_rfl
theorem ta_3_38 (x : Value) (w : World) : (Instr.typeAssert (.iface 3 x) 20 38 true).run Try.prog w = .ok (.tuple #[.slice none 0 0, .bool false]) w := by kernel_rfl
theorem ta_38_38 (x : Value) (w : World) : (Instr.typeAssert (.iface 38 x) 20 38 true).run Try.prog w = .ok (.tuple #[x, .bool true]) w := by kernel_rfl
theorem ta_44_38 (x : Value) (w : World) : (Instr.typeAssert (.iface 44 x) 20 38 true).run Try.prog w = .ok (.tuple #[.slice none 0 0, .bool false]) w := by kernel_rfl
theorem ta_nil_38 (w : World) : (Instr.typeAssert .nilIface 20 38 true).run Try.prog w = .ok (.tuple #[.slice none 0 0, .bool false]) w := by kernel_rfl
theorem ta_3_44 (x : Value) (w : World) : (Instr.typeAssert (.iface 3 x) 20 44 true).run Try.prog w = .ok (.tuple #[.agg #[], .bool false]) w := by kernel_rfl
theorem ta_38_44 (x : Value) (w : World) : (Instr.typeAssert (.iface 38 x) 20 44 true).run Try.prog w = .ok (.tuple #[.agg #[], .bool false]) w := by kernel_rfl
theorem ta_44_44 (x : Value) (w : World) : (Instr.typeAssert (.iface 44 x) 20 44 true).run Try.prog w = .ok (.tuple #[x, .bool true]) w := by kernel_rfl
theorem ta_nil_44 (w : World) : (Instr.typeAssert .nilIface 20 44 true).run Try.prog w = .ok (.tuple #[.agg #[], .bool false]) w := by kernel_rfl
theorem ta_3_41 (x : Value) (w : World) : (Instr.typeAssert (.iface 3 x) 20 41 true).run Try.prog w = .ok (.tuple #[.map none, .bool false]) w := by kernel_rfl
theorem ta_38_41 (x : Value) (w : World) : (Instr.typeAssert (.iface 38 x) 20 41 true).run Try.prog w = .ok (.tuple #[.map none, .bool false]) w := by kernel_rfl
theorem ta_44_41 (x : Value) (w : World) : (Instr.typeAssert (.iface 44 x) 20 41 true).run Try.prog w = .ok (.tuple #[.map none, .bool false]) w := by kernel_rfl
theorem ta_nil_41 (w : World) : (Instr.typeAssert .nilIface 20 41 true).run Try.prog w = .ok (.tuple #[.map none, .bool false]) w := by kernel_rfl
end Go.Proofs.Ytjjkgpjhohnpaaa.types
