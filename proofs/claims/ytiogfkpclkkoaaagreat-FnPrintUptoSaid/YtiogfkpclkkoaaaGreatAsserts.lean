/-
  What 'x.(*T)' gives, with its flag, at each pointer type of a node.
-/
import Derived.Test.YtiogfkpclkkoaaaGreatProg
import Derived.WalkKit
set_option linter.unusedVariables false
namespace Go.Proofs.YtiogfkpclkkoaaaGreat
open Go.RowKit

theorem ta_ptr {U : TypeId} (hu : (match Tryz.prog.underlying U with | some (.pointer _) => true | _ => false) = true) (hz : (Tryz.prog.info? U).map (·.zero) = some (some (.pointer none))) (T xT : TypeId) (v : Value) (w : World) :
    (Instr.typeAssert (.iface T v) xT U true).run Tryz.prog w = .ok (if T = U then .tuple #[v, .bool true] else .tuple #[.pointer none, .bool false]) w := by
  obtain ⟨j, hj, hz'⟩ := Option.map_eq_some_iff.1 hz
  cases hp : Tryz.prog.underlying U with
  | none => rw [hp] at hu; cases hu
  | some d =>
    cases d <;> rw [hp] at hu <;> try (cases hu)
    by_cases h : T = U <;> simp [Instr.typeAssert, run_underlying hp, typeInfo, zeroValue, hj, hz', h]
theorem ta_TextNode (T xT : TypeId) (v : Value) (w : World) : (Instr.typeAssert (.iface T v) xT 50 true).run Tryz.prog w = .ok (if T = 50 then .tuple #[v, .bool true] else .tuple #[.pointer none, .bool false]) w := ta_ptr (by kernel_rfl) (by kernel_rfl) _ _ _ _
theorem ta_ActionNode (T xT : TypeId) (v : Value) (w : World) : (Instr.typeAssert (.iface T v) xT 93 true).run Tryz.prog w = .ok (if T = 93 then .tuple #[v, .bool true] else .tuple #[.pointer none, .bool false]) w := ta_ptr (by kernel_rfl) (by kernel_rfl) _ _ _ _
theorem ta_BoolNode (T xT : TypeId) (v : Value) (w : World) : (Instr.typeAssert (.iface T v) xT 60 true).run Tryz.prog w = .ok (if T = 60 then .tuple #[v, .bool true] else .tuple #[.pointer none, .bool false]) w := ta_ptr (by kernel_rfl) (by kernel_rfl) _ _ _ _
theorem ta_ChainNode (T xT : TypeId) (v : Value) (w : World) : (Instr.typeAssert (.iface T v) xT 109 true).run Tryz.prog w = .ok (if T = 109 then .tuple #[v, .bool true] else .tuple #[.pointer none, .bool false]) w := ta_ptr (by kernel_rfl) (by kernel_rfl) _ _ _ _
theorem ta_CommandNode (T xT : TypeId) (v : Value) (w : World) : (Instr.typeAssert (.iface T v) xT 103 true).run Tryz.prog w = .ok (if T = 103 then .tuple #[v, .bool true] else .tuple #[.pointer none, .bool false]) w := ta_ptr (by kernel_rfl) (by kernel_rfl) _ _ _ _
theorem ta_DotNode (T xT : TypeId) (v : Value) (w : World) : (Instr.typeAssert (.iface T v) xT 63 true).run Tryz.prog w = .ok (if T = 63 then .tuple #[v, .bool true] else .tuple #[.pointer none, .bool false]) w := ta_ptr (by kernel_rfl) (by kernel_rfl) _ _ _ _
theorem ta_FieldNode (T xT : TypeId) (v : Value) (w : World) : (Instr.typeAssert (.iface T v) xT 66 true).run Tryz.prog w = .ok (if T = 66 then .tuple #[v, .bool true] else .tuple #[.pointer none, .bool false]) w := ta_ptr (by kernel_rfl) (by kernel_rfl) _ _ _ _
theorem ta_IdentifierNode (T xT : TypeId) (v : Value) (w : World) : (Instr.typeAssert (.iface T v) xT 69 true).run Tryz.prog w = .ok (if T = 69 then .tuple #[v, .bool true] else .tuple #[.pointer none, .bool false]) w := ta_ptr (by kernel_rfl) (by kernel_rfl) _ _ _ _
theorem ta_IfNode (T xT : TypeId) (v : Value) (w : World) : (Instr.typeAssert (.iface T v) xT 116 true).run Tryz.prog w = .ok (if T = 116 then .tuple #[v, .bool true] else .tuple #[.pointer none, .bool false]) w := ta_ptr (by kernel_rfl) (by kernel_rfl) _ _ _ _
theorem ta_ListNode (T xT : TypeId) (v : Value) (w : World) : (Instr.typeAssert (.iface T v) xT 106 true).run Tryz.prog w = .ok (if T = 106 then .tuple #[v, .bool true] else .tuple #[.pointer none, .bool false]) w := ta_ptr (by kernel_rfl) (by kernel_rfl) _ _ _ _
theorem ta_NilNode (T xT : TypeId) (v : Value) (w : World) : (Instr.typeAssert (.iface T v) xT 72 true).run Tryz.prog w = .ok (if T = 72 then .tuple #[v, .bool true] else .tuple #[.pointer none, .bool false]) w := ta_ptr (by kernel_rfl) (by kernel_rfl) _ _ _ _
theorem ta_NumberNode (T xT : TypeId) (v : Value) (w : World) : (Instr.typeAssert (.iface T v) xT 74 true).run Tryz.prog w = .ok (if T = 74 then .tuple #[v, .bool true] else .tuple #[.pointer none, .bool false]) w := ta_ptr (by kernel_rfl) (by kernel_rfl) _ _ _ _
theorem ta_PipeNode (T xT : TypeId) (v : Value) (w : World) : (Instr.typeAssert (.iface T v) xT 90 true).run Tryz.prog w = .ok (if T = 90 then .tuple #[v, .bool true] else .tuple #[.pointer none, .bool false]) w := ta_ptr (by kernel_rfl) (by kernel_rfl) _ _ _ _
theorem ta_RangeNode (T xT : TypeId) (v : Value) (w : World) : (Instr.typeAssert (.iface T v) xT 119 true).run Tryz.prog w = .ok (if T = 119 then .tuple #[v, .bool true] else .tuple #[.pointer none, .bool false]) w := ta_ptr (by kernel_rfl) (by kernel_rfl) _ _ _ _
theorem ta_StringNode (T xT : TypeId) (v : Value) (w : World) : (Instr.typeAssert (.iface T v) xT 80 true).run Tryz.prog w = .ok (if T = 80 then .tuple #[v, .bool true] else .tuple #[.pointer none, .bool false]) w := ta_ptr (by kernel_rfl) (by kernel_rfl) _ _ _ _
theorem ta_TemplateNode (T xT : TypeId) (v : Value) (w : World) : (Instr.typeAssert (.iface T v) xT 96 true).run Tryz.prog w = .ok (if T = 96 then .tuple #[v, .bool true] else .tuple #[.pointer none, .bool false]) w := ta_ptr (by kernel_rfl) (by kernel_rfl) _ _ _ _
theorem ta_VariableNode (T xT : TypeId) (v : Value) (w : World) : (Instr.typeAssert (.iface T v) xT 83 true).run Tryz.prog w = .ok (if T = 83 then .tuple #[v, .bool true] else .tuple #[.pointer none, .bool false]) w := ta_ptr (by kernel_rfl) (by kernel_rfl) _ _ _ _
theorem ta_WithNode (T xT : TypeId) (v : Value) (w : World) : (Instr.typeAssert (.iface T v) xT 121 true).run Tryz.prog w = .ok (if T = 121 then .tuple #[v, .bool true] else .tuple #[.pointer none, .bool false]) w := ta_ptr (by kernel_rfl) (by kernel_rfl) _ _ _ _
theorem ta_CommentNode (T xT : TypeId) (v : Value) (w : World) : (Instr.typeAssert (.iface T v) xT 57 true).run Tryz.prog w = .ok (if T = 57 then .tuple #[v, .bool true] else .tuple #[.pointer none, .bool false]) w := ta_ptr (by kernel_rfl) (by kernel_rfl) _ _ _ _
theorem ta_BreakNode (T xT : TypeId) (v : Value) (w : World) : (Instr.typeAssert (.iface T v) xT 85 true).run Tryz.prog w = .ok (if T = 85 then .tuple #[v, .bool true] else .tuple #[.pointer none, .bool false]) w := ta_ptr (by kernel_rfl) (by kernel_rfl) _ _ _ _
theorem ta_ContinueNode (T xT : TypeId) (v : Value) (w : World) : (Instr.typeAssert (.iface T v) xT 88 true).run Tryz.prog w = .ok (if T = 88 then .tuple #[v, .bool true] else .tuple #[.pointer none, .bool false]) w := ta_ptr (by kernel_rfl) (by kernel_rfl) _ _ _ _

end Go.Proofs.YtiogfkpclkkoaaaGreat
