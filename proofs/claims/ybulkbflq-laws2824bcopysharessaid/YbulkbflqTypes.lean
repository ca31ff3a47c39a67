/-
  Type assertions over the four dynamic types of this law's trees (41 scalar, 46 *subst, 24 *list, 51 *concat), as closed facts.
-/
import Derived.Test.YbulkbflqRows
import Derived.WalkKit
import Derived.WalkLawsBesides
import Derived.Laws.EntriesVeiled
namespace Go.Proofs.Ybulkbflq
open Go.RowKit

theorem hide {p : Prop} (h : p) : Hid p := h
theorem ta_41_54 (x : Value) (w : World) : (Instr.typeAssert (.iface 41 x) 31 54 true).run Yba.prog w = .ok (.tuple #[.pointer none, .bool false]) w := by kernel_rfl
theorem ta_41_24 (x : Value) (w : World) : (Instr.typeAssert (.iface 41 x) 31 24 true).run Yba.prog w = .ok (.tuple #[.pointer none, .bool false]) w := by kernel_rfl
theorem ta_41_56 (x : Value) (w : World) : (Instr.typeAssert (.iface 41 x) 31 56 true).run Yba.prog w = .ok (.tuple #[.pointer none, .bool false]) w := by kernel_rfl
theorem ta_41_51 (x : Value) (w : World) : (Instr.typeAssert (.iface 41 x) 31 51 true).run Yba.prog w = .ok (.tuple #[.pointer none, .bool false]) w := by kernel_rfl
theorem ta_41_41 (x : Value) (w : World) : (Instr.typeAssert (.iface 41 x) 31 41 true).run Yba.prog w = .ok (.tuple #[x, .bool true]) w := by kernel_rfl
theorem ta_41_46 (x : Value) (w : World) : (Instr.typeAssert (.iface 41 x) 31 46 true).run Yba.prog w = .ok (.tuple #[.pointer none, .bool false]) w := by kernel_rfl
theorem ta_46_54 (x : Value) (w : World) : (Instr.typeAssert (.iface 46 x) 31 54 true).run Yba.prog w = .ok (.tuple #[.pointer none, .bool false]) w := by kernel_rfl
theorem ta_46_24 (x : Value) (w : World) : (Instr.typeAssert (.iface 46 x) 31 24 true).run Yba.prog w = .ok (.tuple #[.pointer none, .bool false]) w := by kernel_rfl
theorem ta_46_56 (x : Value) (w : World) : (Instr.typeAssert (.iface 46 x) 31 56 true).run Yba.prog w = .ok (.tuple #[.pointer none, .bool false]) w := by kernel_rfl
theorem ta_46_51 (x : Value) (w : World) : (Instr.typeAssert (.iface 46 x) 31 51 true).run Yba.prog w = .ok (.tuple #[.pointer none, .bool false]) w := by kernel_rfl
theorem ta_46_41 (x : Value) (w : World) : (Instr.typeAssert (.iface 46 x) 31 41 true).run Yba.prog w = .ok (.tuple #[.agg #[.string ⟨#[]⟩, .int .i64 0, .int .i64 0, .int .i64 0, .string ⟨#[]⟩, .bool false], .bool false]) w := by kernel_rfl
theorem ta_46_46 (x : Value) (w : World) : (Instr.typeAssert (.iface 46 x) 31 46 true).run Yba.prog w = .ok (.tuple #[x, .bool true]) w := by kernel_rfl
theorem ta_24_54 (x : Value) (w : World) : (Instr.typeAssert (.iface 24 x) 31 54 true).run Yba.prog w = .ok (.tuple #[.pointer none, .bool false]) w := by kernel_rfl
theorem ta_24_24 (x : Value) (w : World) : (Instr.typeAssert (.iface 24 x) 31 24 true).run Yba.prog w = .ok (.tuple #[x, .bool true]) w := by kernel_rfl
theorem ta_24_56 (x : Value) (w : World) : (Instr.typeAssert (.iface 24 x) 31 56 true).run Yba.prog w = .ok (.tuple #[.pointer none, .bool false]) w := by kernel_rfl
theorem ta_24_51 (x : Value) (w : World) : (Instr.typeAssert (.iface 24 x) 31 51 true).run Yba.prog w = .ok (.tuple #[.pointer none, .bool false]) w := by kernel_rfl
theorem ta_24_41 (x : Value) (w : World) : (Instr.typeAssert (.iface 24 x) 31 41 true).run Yba.prog w = .ok (.tuple #[.agg #[.string ⟨#[]⟩, .int .i64 0, .int .i64 0, .int .i64 0, .string ⟨#[]⟩, .bool false], .bool false]) w := by kernel_rfl
theorem ta_24_46 (x : Value) (w : World) : (Instr.typeAssert (.iface 24 x) 31 46 true).run Yba.prog w = .ok (.tuple #[.pointer none, .bool false]) w := by kernel_rfl
theorem ta_51_54 (x : Value) (w : World) : (Instr.typeAssert (.iface 51 x) 31 54 true).run Yba.prog w = .ok (.tuple #[.pointer none, .bool false]) w := by kernel_rfl
theorem ta_51_24 (x : Value) (w : World) : (Instr.typeAssert (.iface 51 x) 31 24 true).run Yba.prog w = .ok (.tuple #[.pointer none, .bool false]) w := by kernel_rfl
theorem ta_51_56 (x : Value) (w : World) : (Instr.typeAssert (.iface 51 x) 31 56 true).run Yba.prog w = .ok (.tuple #[.pointer none, .bool false]) w := by kernel_rfl
theorem ta_51_51 (x : Value) (w : World) : (Instr.typeAssert (.iface 51 x) 31 51 true).run Yba.prog w = .ok (.tuple #[x, .bool true]) w := by kernel_rfl
theorem ta_51_41 (x : Value) (w : World) : (Instr.typeAssert (.iface 51 x) 31 41 true).run Yba.prog w = .ok (.tuple #[.agg #[.string ⟨#[]⟩, .int .i64 0, .int .i64 0, .int .i64 0, .string ⟨#[]⟩, .bool false], .bool false]) w := by kernel_rfl
theorem ta_51_46 (x : Value) (w : World) : (Instr.typeAssert (.iface 51 x) 31 46 true).run Yba.prog w = .ok (.tuple #[.pointer none, .bool false]) w := by kernel_rfl
theorem eqf27 (fn : Fn) (first cap : Array Value) (w : World) : (binOp .eql 27 (.func fn first cap) .nilFunc).run Yba.prog w = .ok (.bool false) w := by kernel_rfl
theorem eqn27 (w : World) : (binOp .eql 27 .nilFunc .nilFunc).run Yba.prog w = .ok (.bool true) w := by kernel_rfl
theorem neqf27 (fn : Fn) (first cap : Array Value) (w : World) : (binOp .neq 27 (.func fn first cap) .nilFunc).run Yba.prog w = .ok (.bool true) w := by kernel_rfl
theorem neqn27 (w : World) : (binOp .neq 27 .nilFunc .nilFunc).run Yba.prog w = .ok (.bool false) w := by kernel_rfl
end Go.Proofs.Ybulkbflq
