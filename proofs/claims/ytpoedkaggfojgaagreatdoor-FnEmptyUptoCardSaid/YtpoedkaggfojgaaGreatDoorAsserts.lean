/-
  What 'x.(*T)' gives, with its flag, at each pointer type of a node.
-/
import Derived.Test.YtpoedkaggfojgaaGreatDoorProg
import Derived.WalkKit
set_option linter.unusedVariables false
namespace Go.Proofs.YtpoedkaggfojgaaGreatDoor
open Go.RowKit

theorem ta_ptr {U : TypeId} (hu : (match Tryz.prog.underlying U with | some (.pointer _) => true | _ => false) = true) (hz : (Tryz.prog.info? U).map (·.zero) = some (some (.pointer none))) (T xT : TypeId) (v : Value) (w : World) :
    (Instr.typeAssert (.iface T v) xT U true).run Tryz.prog w = .ok (if T = U then .tuple #[v, .bool true] else .tuple #[.pointer none, .bool false]) w := by
  obtain ⟨j, hj, hz'⟩ := Option.map_eq_some_iff.1 hz
  cases hp : Tryz.prog.underlying U with
  | none => rw [hp] at hu; cases hu
  | some d =>
    cases d <;> rw [hp] at hu <;> try (cases hu)
    by_cases h : T = U <;> simp [Instr.typeAssert, run_underlying hp, typeInfo, zeroValue, hj, hz', h]
theorem ta_TextNode (T xT : TypeId) (v : Value) (w : World) : (Instr.typeAssert (.iface T v) xT 44 true).run Tryz.prog w = .ok (if T = 44 then .tuple #[v, .bool true] else .tuple #[.pointer none, .bool false]) w := ta_ptr (by kernel_rfl) (by kernel_rfl) _ _ _ _
theorem ta_ActionNode (T xT : TypeId) (v : Value) (w : World) : (Instr.typeAssert (.iface T v) xT 87 true).run Tryz.prog w = .ok (if T = 87 then .tuple #[v, .bool true] else .tuple #[.pointer none, .bool false]) w := ta_ptr (by kernel_rfl) (by kernel_rfl) _ _ _ _
theorem ta_BoolNode (T xT : TypeId) (v : Value) (w : World) : (Instr.typeAssert (.iface T v) xT 54 true).run Tryz.prog w = .ok (if T = 54 then .tuple #[v, .bool true] else .tuple #[.pointer none, .bool false]) w := ta_ptr (by kernel_rfl) (by kernel_rfl) _ _ _ _
theorem ta_ChainNode (T xT : TypeId) (v : Value) (w : World) : (Instr.typeAssert (.iface T v) xT 103 true).run Tryz.prog w = .ok (if T = 103 then .tuple #[v, .bool true] else .tuple #[.pointer none, .bool false]) w := ta_ptr (by kernel_rfl) (by kernel_rfl) _ _ _ _
theorem ta_CommandNode (T xT : TypeId) (v : Value) (w : World) : (Instr.typeAssert (.iface T v) xT 97 true).run Tryz.prog w = .ok (if T = 97 then .tuple #[v, .bool true] else .tuple #[.pointer none, .bool false]) w := ta_ptr (by kernel_rfl) (by kernel_rfl) _ _ _ _
theorem ta_DotNode (T xT : TypeId) (v : Value) (w : World) : (Instr.typeAssert (.iface T v) xT 57 true).run Tryz.prog w = .ok (if T = 57 then .tuple #[v, .bool true] else .tuple #[.pointer none, .bool false]) w := ta_ptr (by kernel_rfl) (by kernel_rfl) _ _ _ _
theorem ta_FieldNode (T xT : TypeId) (v : Value) (w : World) : (Instr.typeAssert (.iface T v) xT 60 true).run Tryz.prog w = .ok (if T = 60 then .tuple #[v, .bool true] else .tuple #[.pointer none, .bool false]) w := ta_ptr (by kernel_rfl) (by kernel_rfl) _ _ _ _
theorem ta_IdentifierNode (T xT : TypeId) (v : Value) (w : World) : (Instr.typeAssert (.iface T v) xT 63 true).run Tryz.prog w = .ok (if T = 63 then .tuple #[v, .bool true] else .tuple #[.pointer none, .bool false]) w := ta_ptr (by kernel_rfl) (by kernel_rfl) _ _ _ _
theorem ta_IfNode (T xT : TypeId) (v : Value) (w : World) : (Instr.typeAssert (.iface T v) xT 110 true).run Tryz.prog w = .ok (if T = 110 then .tuple #[v, .bool true] else .tuple #[.pointer none, .bool false]) w := ta_ptr (by kernel_rfl) (by kernel_rfl) _ _ _ _
theorem ta_ListNode (T xT : TypeId) (v : Value) (w : World) : (Instr.typeAssert (.iface T v) xT 100 true).run Tryz.prog w = .ok (if T = 100 then .tuple #[v, .bool true] else .tuple #[.pointer none, .bool false]) w := ta_ptr (by kernel_rfl) (by kernel_rfl) _ _ _ _
theorem ta_NilNode (T xT : TypeId) (v : Value) (w : World) : (Instr.typeAssert (.iface T v) xT 66 true).run Tryz.prog w = .ok (if T = 66 then .tuple #[v, .bool true] else .tuple #[.pointer none, .bool false]) w := ta_ptr (by kernel_rfl) (by kernel_rfl) _ _ _ _
theorem ta_NumberNode (T xT : TypeId) (v : Value) (w : World) : (Instr.typeAssert (.iface T v) xT 68 true).run Tryz.prog w = .ok (if T = 68 then .tuple #[v, .bool true] else .tuple #[.pointer none, .bool false]) w := ta_ptr (by kernel_rfl) (by kernel_rfl) _ _ _ _
theorem ta_PipeNode (T xT : TypeId) (v : Value) (w : World) : (Instr.typeAssert (.iface T v) xT 84 true).run Tryz.prog w = .ok (if T = 84 then .tuple #[v, .bool true] else .tuple #[.pointer none, .bool false]) w := ta_ptr (by kernel_rfl) (by kernel_rfl) _ _ _ _
theorem ta_RangeNode (T xT : TypeId) (v : Value) (w : World) : (Instr.typeAssert (.iface T v) xT 113 true).run Tryz.prog w = .ok (if T = 113 then .tuple #[v, .bool true] else .tuple #[.pointer none, .bool false]) w := ta_ptr (by kernel_rfl) (by kernel_rfl) _ _ _ _
theorem ta_StringNode (T xT : TypeId) (v : Value) (w : World) : (Instr.typeAssert (.iface T v) xT 74 true).run Tryz.prog w = .ok (if T = 74 then .tuple #[v, .bool true] else .tuple #[.pointer none, .bool false]) w := ta_ptr (by kernel_rfl) (by kernel_rfl) _ _ _ _
theorem ta_TemplateNode (T xT : TypeId) (v : Value) (w : World) : (Instr.typeAssert (.iface T v) xT 90 true).run Tryz.prog w = .ok (if T = 90 then .tuple #[v, .bool true] else .tuple #[.pointer none, .bool false]) w := ta_ptr (by kernel_rfl) (by kernel_rfl) _ _ _ _
theorem ta_VariableNode (T xT : TypeId) (v : Value) (w : World) : (Instr.typeAssert (.iface T v) xT 77 true).run Tryz.prog w = .ok (if T = 77 then .tuple #[v, .bool true] else .tuple #[.pointer none, .bool false]) w := ta_ptr (by kernel_rfl) (by kernel_rfl) _ _ _ _
theorem ta_WithNode (T xT : TypeId) (v : Value) (w : World) : (Instr.typeAssert (.iface T v) xT 115 true).run Tryz.prog w = .ok (if T = 115 then .tuple #[v, .bool true] else .tuple #[.pointer none, .bool false]) w := ta_ptr (by kernel_rfl) (by kernel_rfl) _ _ _ _
theorem ta_CommentNode (T xT : TypeId) (v : Value) (w : World) : (Instr.typeAssert (.iface T v) xT 51 true).run Tryz.prog w = .ok (if T = 51 then .tuple #[v, .bool true] else .tuple #[.pointer none, .bool false]) w := ta_ptr (by kernel_rfl) (by kernel_rfl) _ _ _ _
theorem ta_BreakNode (T xT : TypeId) (v : Value) (w : World) : (Instr.typeAssert (.iface T v) xT 79 true).run Tryz.prog w = .ok (if T = 79 then .tuple #[v, .bool true] else .tuple #[.pointer none, .bool false]) w := ta_ptr (by kernel_rfl) (by kernel_rfl) _ _ _ _
theorem ta_ContinueNode (T xT : TypeId) (v : Value) (w : World) : (Instr.typeAssert (.iface T v) xT 82 true).run Tryz.prog w = .ok (if T = 82 then .tuple #[v, .bool true] else .tuple #[.pointer none, .bool false]) w := ta_ptr (by kernel_rfl) (by kernel_rfl) _ _ _ _

end Go.Proofs.YtpoedkaggfojgaaGreatDoor
