/- What the type tests of this program answer; the payload is any value. -/
import Derived.Test.YtiegckcmgdfjeaaProg
import Derived.WalkKit
import Derived.KernelRfl
namespace Go.Proofs.Ytiegckcmgdfjeaa.types
theorem ta_3_3 (x : Value) (w : World) : (Instr.typeAssert (.iface 3 x) 20 3 true).run Try.prog w = .ok (.tuple #[x, .bool true]) w := by kernel_rfl
theorem ta_4_3 (x : Value) (w : World) : (Instr.typeAssert (.iface 4 x) 20 3 true).run Try.prog w = .ok (.tuple #[.int .i64 0, .bool false]) w := by kernel_rfl
theorem ta_9_3 (x : Value) (w : World) : (Instr.typeAssert (.iface 9 x) 20 3 true).run Try.prog w = .ok (.tuple #[.int .i64 0, .bool false]) w := by kernel_rfl
theorem ta_39_3 (x : Value) (w : World) : (Instr.typeAssert (.iface 39 x) 20 3 true).run Try.prog w = .ok (.tuple #[.int .i64 0, .bool false]) w := by kernel_rfl
theorem ta_66_3 (x : Value) (w : World) : (Instr.typeAssert (.iface 66 x) 20 3 true).run Try.prog w = .ok (.tuple #[.int .i64 0, .bool false]) w := by kernel_rfl
theorem ta_61_3 (x : Value) (w : World) : (Instr.typeAssert (.iface 61 x) 20 3 true).run Try.prog w = .ok (.tuple #[.int .i64 0, .bool false]) w := by kernel_rfl
theorem ta_63_3 (x : Value) (w : World) : (Instr.typeAssert (.iface 63 x) 20 3 true).run Try.prog w = .ok (.tuple #[.int .i64 0, .bool false]) w := by kernel_rfl
theorem ta_59_3 (x : Value) (w : World) : (Instr.typeAssert (.iface 59 x) 20 3 true).run Try.prog w = .ok (.tuple #[.int .i64 0, .bool false]) w := by kernel_rfl
theorem ta_nil_3 (w : World) : (Instr.typeAssert .nilIface 20 3 true).run Try.prog w = .ok (.tuple #[.int .i64 0, .bool false]) w := by kernel_rfl
theorem ta_3_39 (x : Value) (w : World) : (Instr.typeAssert (.iface 3 x) 20 39 true).run Try.prog w = .ok (.tuple #[.float .f64 0, .bool false]) w := by kernel_rfl
theorem ta_4_39 (x : Value) (w : World) : (Instr.typeAssert (.iface 4 x) 20 39 true).run Try.prog w = .ok (.tuple #[.float .f64 0, .bool false]) w := by kernel_rfl
theorem ta_9_39 (x : Value) (w : World) : (Instr.typeAssert (.iface 9 x) 20 39 true).run Try.prog w = .ok (.tuple #[.float .f64 0, .bool false]) w := by kernel_rfl
theorem ta_39_39 (x : Value) (w : World) : (Instr.typeAssert (.iface 39 x) 20 39 true).run Try.prog w = .ok (.tuple #[x, .bool true]) w := by kernel_rfl
theorem ta_66_39 (x : Value) (w : World) : (Instr.typeAssert (.iface 66 x) 20 39 true).run Try.prog w = .ok (.tuple #[.float .f64 0, .bool false]) w := by kernel_rfl
theorem ta_61_39 (x : Value) (w : World) : (Instr.typeAssert (.iface 61 x) 20 39 true).run Try.prog w = .ok (.tuple #[.float .f64 0, .bool false]) w := by kernel_rfl
theorem ta_63_39 (x : Value) (w : World) : (Instr.typeAssert (.iface 63 x) 20 39 true).run Try.prog w = .ok (.tuple #[.float .f64 0, .bool false]) w := by kernel_rfl
theorem ta_59_39 (x : Value) (w : World) : (Instr.typeAssert (.iface 59 x) 20 39 true).run Try.prog w = .ok (.tuple #[.float .f64 0, .bool false]) w := by kernel_rfl
theorem ta_nil_39 (w : World) : (Instr.typeAssert .nilIface 20 39 true).run Try.prog w = .ok (.tuple #[.float .f64 0, .bool false]) w := by kernel_rfl
theorem ta_3_66 (x : Value) (w : World) : (Instr.typeAssert (.iface 3 x) 20 66 true).run Try.prog w = .ok (.tuple #[.pointer none, .bool false]) w := by kernel_rfl
theorem ta_4_66 (x : Value) (w : World) : (Instr.typeAssert (.iface 4 x) 20 66 true).run Try.prog w = .ok (.tuple #[.pointer none, .bool false]) w := by kernel_rfl
theorem ta_9_66 (x : Value) (w : World) : (Instr.typeAssert (.iface 9 x) 20 66 true).run Try.prog w = .ok (.tuple #[.pointer none, .bool false]) w := by kernel_rfl
theorem ta_39_66 (x : Value) (w : World) : (Instr.typeAssert (.iface 39 x) 20 66 true).run Try.prog w = .ok (.tuple #[.pointer none, .bool false]) w := by kernel_rfl
theorem ta_66_66 (x : Value) (w : World) : (Instr.typeAssert (.iface 66 x) 20 66 true).run Try.prog w = .ok (.tuple #[x, .bool true]) w := by kernel_rfl
theorem ta_61_66 (x : Value) (w : World) : (Instr.typeAssert (.iface 61 x) 20 66 true).run Try.prog w = .ok (.tuple #[.pointer none, .bool false]) w := by kernel_rfl
theorem ta_63_66 (x : Value) (w : World) : (Instr.typeAssert (.iface 63 x) 20 66 true).run Try.prog w = .ok (.tuple #[.pointer none, .bool false]) w := by kernel_rfl
theorem ta_59_66 (x : Value) (w : World) : (Instr.typeAssert (.iface 59 x) 20 66 true).run Try.prog w = .ok (.tuple #[.pointer none, .bool false]) w := by kernel_rfl
theorem ta_nil_66 (w : World) : (Instr.typeAssert .nilIface 20 66 true).run Try.prog w = .ok (.tuple #[.pointer none, .bool false]) w := by kernel_rfl
theorem ta_3_76 (x : Value) (w : World) : (Instr.typeAssert (.iface 3 x) 20 76 true).run Try.prog w = .ok (.tuple #[.string ⟨#[]⟩, .bool false]) w := by kernel_rfl
theorem ta_4_76 (x : Value) (w : World) : (Instr.typeAssert (.iface 4 x) 20 76 true).run Try.prog w = .ok (.tuple #[.string ⟨#[]⟩, .bool false]) w := by kernel_rfl
theorem ta_9_76 (x : Value) (w : World) : (Instr.typeAssert (.iface 9 x) 20 76 true).run Try.prog w = .ok (.tuple #[.string ⟨#[]⟩, .bool false]) w := by kernel_rfl
theorem ta_39_76 (x : Value) (w : World) : (Instr.typeAssert (.iface 39 x) 20 76 true).run Try.prog w = .ok (.tuple #[.string ⟨#[]⟩, .bool false]) w := by kernel_rfl
theorem ta_66_76 (x : Value) (w : World) : (Instr.typeAssert (.iface 66 x) 20 76 true).run Try.prog w = .ok (.tuple #[.string ⟨#[]⟩, .bool false]) w := by kernel_rfl
theorem ta_61_76 (x : Value) (w : World) : (Instr.typeAssert (.iface 61 x) 20 76 true).run Try.prog w = .ok (.tuple #[.string ⟨#[]⟩, .bool false]) w := by kernel_rfl
theorem ta_63_76 (x : Value) (w : World) : (Instr.typeAssert (.iface 63 x) 20 76 true).run Try.prog w = .ok (.tuple #[.string ⟨#[]⟩, .bool false]) w := by kernel_rfl
theorem ta_59_76 (x : Value) (w : World) : (Instr.typeAssert (.iface 59 x) 20 76 true).run Try.prog w = .ok (.tuple #[.string ⟨#[]⟩, .bool false]) w := by kernel_rfl
theorem ta_nil_76 (w : World) : (Instr.typeAssert .nilIface 20 76 true).run Try.prog w = .ok (.tuple #[.string ⟨#[]⟩, .bool false]) w := by kernel_rfl
theorem ta_3_9 (x : Value) (w : World) : (Instr.typeAssert (.iface 3 x) 20 9 true).run Try.prog w = .ok (.tuple #[.string ⟨#[]⟩, .bool false]) w := by kernel_rfl
theorem ta_4_9 (x : Value) (w : World) : (Instr.typeAssert (.iface 4 x) 20 9 true).run Try.prog w = .ok (.tuple #[.string ⟨#[]⟩, .bool false]) w := by kernel_rfl
theorem ta_9_9 (x : Value) (w : World) : (Instr.typeAssert (.iface 9 x) 20 9 true).run Try.prog w = .ok (.tuple #[x, .bool true]) w := by kernel_rfl
theorem ta_39_9 (x : Value) (w : World) : (Instr.typeAssert (.iface 39 x) 20 9 true).run Try.prog w = .ok (.tuple #[.string ⟨#[]⟩, .bool false]) w := by kernel_rfl
theorem ta_66_9 (x : Value) (w : World) : (Instr.typeAssert (.iface 66 x) 20 9 true).run Try.prog w = .ok (.tuple #[.string ⟨#[]⟩, .bool false]) w := by kernel_rfl
theorem ta_61_9 (x : Value) (w : World) : (Instr.typeAssert (.iface 61 x) 20 9 true).run Try.prog w = .ok (.tuple #[.string ⟨#[]⟩, .bool false]) w := by kernel_rfl
theorem ta_63_9 (x : Value) (w : World) : (Instr.typeAssert (.iface 63 x) 20 9 true).run Try.prog w = .ok (.tuple #[.string ⟨#[]⟩, .bool false]) w := by kernel_rfl
theorem ta_59_9 (x : Value) (w : World) : (Instr.typeAssert (.iface 59 x) 20 9 true).run Try.prog w = .ok (.tuple #[.string ⟨#[]⟩, .bool false]) w := by kernel_rfl
theorem ta_nil_9 (w : World) : (Instr.typeAssert .nilIface 20 9 true).run Try.prog w = .ok (.tuple #[.string ⟨#[]⟩, .bool false]) w := by kernel_rfl
theorem ta_3_61 (x : Value) (w : World) : (Instr.typeAssert (.iface 3 x) 20 61 true).run Try.prog w = .ok (.tuple #[.slice none 0 0, .bool false]) w := by kernel_rfl
theorem ta_4_61 (x : Value) (w : World) : (Instr.typeAssert (.iface 4 x) 20 61 true).run Try.prog w = .ok (.tuple #[.slice none 0 0, .bool false]) w := by kernel_rfl
theorem ta_9_61 (x : Value) (w : World) : (Instr.typeAssert (.iface 9 x) 20 61 true).run Try.prog w = .ok (.tuple #[.slice none 0 0, .bool false]) w := by kernel_rfl
theorem ta_39_61 (x : Value) (w : World) : (Instr.typeAssert (.iface 39 x) 20 61 true).run Try.prog w = .ok (.tuple #[.slice none 0 0, .bool false]) w := by kernel_rfl
theorem ta_66_61 (x : Value) (w : World) : (Instr.typeAssert (.iface 66 x) 20 61 true).run Try.prog w = .ok (.tuple #[.slice none 0 0, .bool false]) w := by kernel_rfl
theorem ta_61_61 (x : Value) (w : World) : (Instr.typeAssert (.iface 61 x) 20 61 true).run Try.prog w = .ok (.tuple #[x, .bool true]) w := by kernel_rfl
theorem ta_63_61 (x : Value) (w : World) : (Instr.typeAssert (.iface 63 x) 20 61 true).run Try.prog w = .ok (.tuple #[.slice none 0 0, .bool false]) w := by kernel_rfl
theorem ta_59_61 (x : Value) (w : World) : (Instr.typeAssert (.iface 59 x) 20 61 true).run Try.prog w = .ok (.tuple #[.slice none 0 0, .bool false]) w := by kernel_rfl
theorem ta_nil_61 (w : World) : (Instr.typeAssert .nilIface 20 61 true).run Try.prog w = .ok (.tuple #[.slice none 0 0, .bool false]) w := by kernel_rfl
theorem ta_3_63 (x : Value) (w : World) : (Instr.typeAssert (.iface 3 x) 20 63 true).run Try.prog w = .ok (.tuple #[.map none, .bool false]) w := by kernel_rfl
theorem ta_4_63 (x : Value) (w : World) : (Instr.typeAssert (.iface 4 x) 20 63 true).run Try.prog w = .ok (.tuple #[.map none, .bool false]) w := by kernel_rfl
theorem ta_9_63 (x : Value) (w : World) : (Instr.typeAssert (.iface 9 x) 20 63 true).run Try.prog w = .ok (.tuple #[.map none, .bool false]) w := by kernel_rfl
theorem ta_39_63 (x : Value) (w : World) : (Instr.typeAssert (.iface 39 x) 20 63 true).run Try.prog w = .ok (.tuple #[.map none, .bool false]) w := by kernel_rfl
theorem ta_66_63 (x : Value) (w : World) : (Instr.typeAssert (.iface 66 x) 20 63 true).run Try.prog w = .ok (.tuple #[.map none, .bool false]) w := by kernel_rfl
theorem ta_61_63 (x : Value) (w : World) : (Instr.typeAssert (.iface 61 x) 20 63 true).run Try.prog w = .ok (.tuple #[.map none, .bool false]) w := by kernel_rfl
theorem ta_63_63 (x : Value) (w : World) : (Instr.typeAssert (.iface 63 x) 20 63 true).run Try.prog w = .ok (.tuple #[x, .bool true]) w := by kernel_rfl
theorem ta_59_63 (x : Value) (w : World) : (Instr.typeAssert (.iface 59 x) 20 63 true).run Try.prog w = .ok (.tuple #[.map none, .bool false]) w := by kernel_rfl
theorem ta_nil_63 (w : World) : (Instr.typeAssert .nilIface 20 63 true).run Try.prog w = .ok (.tuple #[.map none, .bool false]) w := by kernel_rfl
theorem ta_3_59 (x : Value) (w : World) : (Instr.typeAssert (.iface 3 x) 20 59 true).run Try.prog w = .ok (.tuple #[.pointer none, .bool false]) w := by kernel_rfl
theorem ta_4_59 (x : Value) (w : World) : (Instr.typeAssert (.iface 4 x) 20 59 true).run Try.prog w = .ok (.tuple #[.pointer none, .bool false]) w := by kernel_rfl
theorem ta_9_59 (x : Value) (w : World) : (Instr.typeAssert (.iface 9 x) 20 59 true).run Try.prog w = .ok (.tuple #[.pointer none, .bool false]) w := by kernel_rfl
theorem ta_39_59 (x : Value) (w : World) : (Instr.typeAssert (.iface 39 x) 20 59 true).run Try.prog w = .ok (.tuple #[.pointer none, .bool false]) w := by kernel_rfl
theorem ta_66_59 (x : Value) (w : World) : (Instr.typeAssert (.iface 66 x) 20 59 true).run Try.prog w = .ok (.tuple #[.pointer none, .bool false]) w := by kernel_rfl
theorem ta_61_59 (x : Value) (w : World) : (Instr.typeAssert (.iface 61 x) 20 59 true).run Try.prog w = .ok (.tuple #[.pointer none, .bool false]) w := by kernel_rfl
theorem ta_63_59 (x : Value) (w : World) : (Instr.typeAssert (.iface 63 x) 20 59 true).run Try.prog w = .ok (.tuple #[.pointer none, .bool false]) w := by kernel_rfl
theorem ta_59_59 (x : Value) (w : World) : (Instr.typeAssert (.iface 59 x) 20 59 true).run Try.prog w = .ok (.tuple #[x, .bool true]) w := by kernel_rfl
theorem ta_nil_59 (w : World) : (Instr.typeAssert .nilIface 20 59 true).run Try.prog w = .ok (.tuple #[.pointer none, .bool false]) w := by kernel_rfl
end Go.Proofs.Ytiegckcmgdfjeaa.types
