/-
  The walk of parse.zzTree at the nodes without nodes below them. Printed by py/zza.py.
-/
import Derived.Test.YtiogfkpclkkoaaaGreatFactsY
import Derived.Test.YtiogfkpclkkoaaaGreatAsserts
set_option linter.unusedVariables false
set_option linter.unusedSimpArgs false
namespace Go.Proofs.YtiogfkpclkkoaaaGreat
open Go.RowKit

attribute [local go_sem] ta_TextNode ta_ActionNode ta_BoolNode ta_ChainNode ta_CommandNode ta_DotNode ta_FieldNode ta_IdentifierNode ta_IfNode ta_ListNode ta_NilNode ta_NumberNode ta_PipeNode ta_RangeNode ta_StringNode ta_TemplateNode ta_VariableNode ta_WithNode ta_CommentNode ta_BreakNode ta_ContinueNode

set_option maxHeartbeats 1000000 in
set_option maxRecDepth 100000 in
theorem zz_text {base b d : Nat} {T p : Option Addr} {S : Nat → Prop} {n : Nd} {w : World} (h : n.kind = 1) {bv : Value} (hx : Bytes w S bv n.text) (h1 : base ≤ b) (h2 : S b) (hh : w.heap[b]? = some (.cells #[.int .i64 0, .int .i64 0, .pointer p, bv] 56 (0, 0))) :
    Calls Tryz.prog 29 #[ifc n b, .pointer T] w (ZzPost w base T S (d + 1) b n) := by
  have g1 : w.cell? ⟨b, 2, none⟩ = some (.pointer p) := cell_of_heap' hh
  have g2 := fr_at hh 2
  have hst : TrStep base T w (w.setCell ⟨b, 2, none⟩ (.pointer T)) := TrStep.set T h1 (by decide) hh rfl
  have hpost : ZzPost w base T S (d + 1) b n (.returned (.tuple #[])) (w.setCell ⟨b, 2, none⟩ (.pointer T)) := ⟨rfl, hst, PN.close h1 h2 (by decide) hh (TrStep.refl _ _ _) (.text h (hx.step hst))⟩
  have HP := Lib.hid hpost
  clear hpost hst hh hx
  rw [show ifc n b = .iface 50 (.pointer (some ⟨b, 0, none⟩)) by unfold ifc; rw [h]; rfl]
  go_enter Tryz.func29, Tryz.ntmps29
  go_wp2
  all_goals (first | go_end0 | refine bodyPost_ret (results_none rfl _ _ _) rfl ?_)
  all_goals exact HP.out

set_option maxHeartbeats 1000000 in
set_option maxRecDepth 100000 in
theorem zz_comment {base b d : Nat} {T p : Option Addr} {S : Nat → Prop} {n : Nd} {w : World} (h : n.kind = 19)  (h1 : base ≤ b) (h2 : S b) (hh : w.heap[b]? = some (.cells #[.int .i64 20, .int .i64 0, .pointer p, .string n.text] 59 (0, 0))) :
    Calls Tryz.prog 29 #[ifc n b, .pointer T] w (ZzPost w base T S (d + 1) b n) := by
  have g1 : w.cell? ⟨b, 2, none⟩ = some (.pointer p) := cell_of_heap' hh
  have g2 := fr_at hh 2
  have hst : TrStep base T w (w.setCell ⟨b, 2, none⟩ (.pointer T)) := TrStep.set T h1 (by decide) hh rfl
  have hpost : ZzPost w base T S (d + 1) b n (.returned (.tuple #[])) (w.setCell ⟨b, 2, none⟩ (.pointer T)) := ⟨rfl, hst, PN.close h1 h2 (by decide) hh (TrStep.refl _ _ _) (.comment h)⟩
  have HP := Lib.hid hpost
  clear hpost hst hh
  rw [show ifc n b = .iface 57 (.pointer (some ⟨b, 0, none⟩)) by unfold ifc; rw [h]; rfl]
  go_enter Tryz.func29, Tryz.ntmps29
  go_wp2
  all_goals (first | go_end0 | refine bodyPost_ret (results_none rfl _ _ _) rfl ?_)
  all_goals exact HP.out

set_option maxHeartbeats 1000000 in
set_option maxRecDepth 100000 in
theorem zz_bool {base b d : Nat} {T p : Option Addr} {S : Nat → Prop} {n : Nd} {w : World} (h : n.kind = 3)  (h1 : base ≤ b) (h2 : S b) (hh : w.heap[b]? = some (.cells #[.int .i64 2, .int .i64 0, .pointer p, .bool n.tru] 62 (0, 0))) :
    Calls Tryz.prog 29 #[ifc n b, .pointer T] w (ZzPost w base T S (d + 1) b n) := by
  have g1 : w.cell? ⟨b, 2, none⟩ = some (.pointer p) := cell_of_heap' hh
  have g2 := fr_at hh 2
  have hst : TrStep base T w (w.setCell ⟨b, 2, none⟩ (.pointer T)) := TrStep.set T h1 (by decide) hh rfl
  have hpost : ZzPost w base T S (d + 1) b n (.returned (.tuple #[])) (w.setCell ⟨b, 2, none⟩ (.pointer T)) := ⟨rfl, hst, PN.close h1 h2 (by decide) hh (TrStep.refl _ _ _) (.bool h)⟩
  have HP := Lib.hid hpost
  clear hpost hst hh
  rw [show ifc n b = .iface 60 (.pointer (some ⟨b, 0, none⟩)) by unfold ifc; rw [h]; rfl]
  go_enter Tryz.func29, Tryz.ntmps29
  go_wp2
  all_goals (first | go_end0 | refine bodyPost_ret (results_none rfl _ _ _) rfl ?_)
  all_goals exact HP.out

set_option maxHeartbeats 1000000 in
set_option maxRecDepth 100000 in
theorem zz_dot {base b d : Nat} {T p : Option Addr} {S : Nat → Prop} {n : Nd} {w : World} (h : n.kind = 6)  (h1 : base ≤ b) (h2 : S b) (hh : w.heap[b]? = some (.cells #[.int .i64 5, .int .i64 0, .pointer p] 65 (0, 0))) :
    Calls Tryz.prog 29 #[ifc n b, .pointer T] w (ZzPost w base T S (d + 1) b n) := by
  have g1 : w.cell? ⟨b, 2, none⟩ = some (.pointer p) := cell_of_heap' hh
  have g2 := fr_at hh 2
  have hst : TrStep base T w (w.setCell ⟨b, 2, none⟩ (.pointer T)) := TrStep.set T h1 (by decide) hh rfl
  have hpost : ZzPost w base T S (d + 1) b n (.returned (.tuple #[])) (w.setCell ⟨b, 2, none⟩ (.pointer T)) := ⟨rfl, hst, PN.close h1 h2 (by decide) hh (TrStep.refl _ _ _) (.dot h)⟩
  have HP := Lib.hid hpost
  clear hpost hst hh
  rw [show ifc n b = .iface 63 (.pointer (some ⟨b, 0, none⟩)) by unfold ifc; rw [h]; rfl]
  go_enter Tryz.func29, Tryz.ntmps29
  go_wp2
  all_goals (first | go_end0 | refine bodyPost_ret (results_none rfl _ _ _) rfl ?_)
  all_goals exact HP.out

set_option maxHeartbeats 1000000 in
set_option maxRecDepth 100000 in
theorem zz_field {base b d : Nat} {T p : Option Addr} {S : Nat → Prop} {n : Nd} {w : World} (h : n.kind = 7) {nv : Value} (hx : Strs w S nv n.names) (h1 : base ≤ b) (h2 : S b) (hh : w.heap[b]? = some (.cells #[.int .i64 8, .int .i64 0, .pointer p, nv] 68 (0, 0))) :
    Calls Tryz.prog 29 #[ifc n b, .pointer T] w (ZzPost w base T S (d + 1) b n) := by
  have g1 : w.cell? ⟨b, 2, none⟩ = some (.pointer p) := cell_of_heap' hh
  have g2 := fr_at hh 2
  have hst : TrStep base T w (w.setCell ⟨b, 2, none⟩ (.pointer T)) := TrStep.set T h1 (by decide) hh rfl
  have hpost : ZzPost w base T S (d + 1) b n (.returned (.tuple #[])) (w.setCell ⟨b, 2, none⟩ (.pointer T)) := ⟨rfl, hst, PN.close h1 h2 (by decide) hh (TrStep.refl _ _ _) (.field h (hx.step hst))⟩
  have HP := Lib.hid hpost
  clear hpost hst hh hx
  rw [show ifc n b = .iface 66 (.pointer (some ⟨b, 0, none⟩)) by unfold ifc; rw [h]; rfl]
  go_enter Tryz.func29, Tryz.ntmps29
  go_wp2
  all_goals (first | go_end0 | refine bodyPost_ret (results_none rfl _ _ _) rfl ?_)
  all_goals exact HP.out

set_option maxHeartbeats 1000000 in
set_option maxRecDepth 100000 in
theorem zz_ident {base b d : Nat} {T p : Option Addr} {S : Nat → Prop} {n : Nd} {w : World} (h : n.kind = 8)  (h1 : base ≤ b) (h2 : S b) (hh : w.heap[b]? = some (.cells #[.int .i64 9, .int .i64 0, .pointer p, .string n.text] 71 (0, 0))) :
    Calls Tryz.prog 29 #[ifc n b, .pointer T] w (ZzPost w base T S (d + 1) b n) := by
  have g1 : w.cell? ⟨b, 2, none⟩ = some (.pointer p) := cell_of_heap' hh
  have g2 := fr_at hh 2
  have hst : TrStep base T w (w.setCell ⟨b, 2, none⟩ (.pointer T)) := TrStep.set T h1 (by decide) hh rfl
  have hpost : ZzPost w base T S (d + 1) b n (.returned (.tuple #[])) (w.setCell ⟨b, 2, none⟩ (.pointer T)) := ⟨rfl, hst, PN.close h1 h2 (by decide) hh (TrStep.refl _ _ _) (.ident h)⟩
  have HP := Lib.hid hpost
  clear hpost hst hh
  rw [show ifc n b = .iface 69 (.pointer (some ⟨b, 0, none⟩)) by unfold ifc; rw [h]; rfl]
  go_enter Tryz.func29, Tryz.ntmps29
  go_wp2
  all_goals (first | go_end0 | refine bodyPost_ret (results_none rfl _ _ _) rfl ?_)
  all_goals exact HP.out

set_option maxHeartbeats 1000000 in
set_option maxRecDepth 100000 in
theorem zz_nil {base b d : Nat} {T p : Option Addr} {S : Nat → Prop} {n : Nd} {w : World} (h : n.kind = 11)  (h1 : base ≤ b) (h2 : S b) (hh : w.heap[b]? = some (.cells #[.int .i64 12, .int .i64 0, .pointer p] 73 (0, 0))) :
    Calls Tryz.prog 29 #[ifc n b, .pointer T] w (ZzPost w base T S (d + 1) b n) := by
  have g1 : w.cell? ⟨b, 2, none⟩ = some (.pointer p) := cell_of_heap' hh
  have g2 := fr_at hh 2
  have hst : TrStep base T w (w.setCell ⟨b, 2, none⟩ (.pointer T)) := TrStep.set T h1 (by decide) hh rfl
  have hpost : ZzPost w base T S (d + 1) b n (.returned (.tuple #[])) (w.setCell ⟨b, 2, none⟩ (.pointer T)) := ⟨rfl, hst, PN.close h1 h2 (by decide) hh (TrStep.refl _ _ _) (.nil h)⟩
  have HP := Lib.hid hpost
  clear hpost hst hh
  rw [show ifc n b = .iface 72 (.pointer (some ⟨b, 0, none⟩)) by unfold ifc; rw [h]; rfl]
  go_enter Tryz.func29, Tryz.ntmps29
  go_wp2
  all_goals (first | go_end0 | refine bodyPost_ret (results_none rfl _ _ _) rfl ?_)
  all_goals exact HP.out

set_option maxHeartbeats 1000000 in
set_option maxRecDepth 100000 in
theorem zz_num {base b d : Nat} {T p : Option Addr} {S : Nat → Prop} {n : Nd} {w : World} (h : n.kind = 12) (b1 b2 b3 b4 : Bool) (x y : Int) (f re im : Nat) (h1 : base ≤ b) (h2 : S b) (hh : w.heap[b]? = some (.cells #[.int .i64 13, .int .i64 0, .pointer p, .bool b1, .bool b2, .bool b3, .bool b4, .int .i64 x, .int .u64 y, .float .f64 f, .complex .f64 re im, .string n.text] 79 (0, 0))) :
    Calls Tryz.prog 29 #[ifc n b, .pointer T] w (ZzPost w base T S (d + 1) b n) := by
  have g1 : w.cell? ⟨b, 2, none⟩ = some (.pointer p) := cell_of_heap' hh
  have g2 := fr_at hh 2
  have hst : TrStep base T w (w.setCell ⟨b, 2, none⟩ (.pointer T)) := TrStep.set T h1 (by decide) hh rfl
  have hpost : ZzPost w base T S (d + 1) b n (.returned (.tuple #[])) (w.setCell ⟨b, 2, none⟩ (.pointer T)) := ⟨rfl, hst, PN.close h1 h2 (by decide) hh (TrStep.refl _ _ _) (.num h b1 b2 b3 b4 x y f re im)⟩
  have HP := Lib.hid hpost
  clear hpost hst hh
  rw [show ifc n b = .iface 74 (.pointer (some ⟨b, 0, none⟩)) by unfold ifc; rw [h]; rfl]
  go_enter Tryz.func29, Tryz.ntmps29
  go_wp2
  all_goals (first | go_end0 | refine bodyPost_ret (results_none rfl _ _ _) rfl ?_)
  all_goals exact HP.out

set_option maxHeartbeats 1000000 in
set_option maxRecDepth 100000 in
theorem zz_str {base b d : Nat} {T p : Option Addr} {S : Nat → Prop} {n : Nd} {w : World} (h : n.kind = 15)  (h1 : base ≤ b) (h2 : S b) (hh : w.heap[b]? = some (.cells #[.int .i64 16, .int .i64 0, .pointer p, .string n.text, .string n.value] 82 (0, 0))) :
    Calls Tryz.prog 29 #[ifc n b, .pointer T] w (ZzPost w base T S (d + 1) b n) := by
  have g1 : w.cell? ⟨b, 2, none⟩ = some (.pointer p) := cell_of_heap' hh
  have g2 := fr_at hh 2
  have hst : TrStep base T w (w.setCell ⟨b, 2, none⟩ (.pointer T)) := TrStep.set T h1 (by decide) hh rfl
  have hpost : ZzPost w base T S (d + 1) b n (.returned (.tuple #[])) (w.setCell ⟨b, 2, none⟩ (.pointer T)) := ⟨rfl, hst, PN.close h1 h2 (by decide) hh (TrStep.refl _ _ _) (.str h)⟩
  have HP := Lib.hid hpost
  clear hpost hst hh
  rw [show ifc n b = .iface 80 (.pointer (some ⟨b, 0, none⟩)) by unfold ifc; rw [h]; rfl]
  go_enter Tryz.func29, Tryz.ntmps29
  go_wp2
  all_goals (first | go_end0 | refine bodyPost_ret (results_none rfl _ _ _) rfl ?_)
  all_goals exact HP.out

set_option maxHeartbeats 1000000 in
set_option maxRecDepth 100000 in
theorem zz_var {base b d : Nat} {T p : Option Addr} {S : Nat → Prop} {n : Nd} {w : World} (h : n.kind = 17) {nv : Value} (hx : Strs w S nv n.names) (h1 : base ≤ b) (h2 : S b) (hh : w.heap[b]? = some (.cells #[.int .i64 18, .int .i64 0, .pointer p, nv] 84 (0, 0))) :
    Calls Tryz.prog 29 #[ifc n b, .pointer T] w (ZzPost w base T S (d + 1) b n) := by
  have g1 : w.cell? ⟨b, 2, none⟩ = some (.pointer p) := cell_of_heap' hh
  have g2 := fr_at hh 2
  have hst : TrStep base T w (w.setCell ⟨b, 2, none⟩ (.pointer T)) := TrStep.set T h1 (by decide) hh rfl
  have hpost : ZzPost w base T S (d + 1) b n (.returned (.tuple #[])) (w.setCell ⟨b, 2, none⟩ (.pointer T)) := ⟨rfl, hst, PN.close h1 h2 (by decide) hh (TrStep.refl _ _ _) (.var h (hx.step hst))⟩
  have HP := Lib.hid hpost
  clear hpost hst hh hx
  rw [show ifc n b = .iface 83 (.pointer (some ⟨b, 0, none⟩)) by unfold ifc; rw [h]; rfl]
  go_enter Tryz.func29, Tryz.ntmps29
  go_wp2
  all_goals (first | go_end0 | refine bodyPost_ret (results_none rfl _ _ _) rfl ?_)
  all_goals exact HP.out

set_option maxHeartbeats 1000000 in
set_option maxRecDepth 100000 in
theorem zz_brk {base b d : Nat} {T p : Option Addr} {S : Nat → Prop} {n : Nd} {w : World} (h : n.kind = 20)  (h1 : base ≤ b) (h2 : S b) (hh : w.heap[b]? = some (.cells #[.pointer p, .int .i64 21, .int .i64 0, .int .i64 0] 87 (0, 0))) :
    Calls Tryz.prog 29 #[ifc n b, .pointer T] w (ZzPost w base T S (d + 1) b n) := by
  have g1 : w.cell? ⟨b, 0, none⟩ = some (.pointer p) := cell_of_heap' hh
  have g2 := fr_at hh 0
  have hst : TrStep base T w (w.setCell ⟨b, 0, none⟩ (.pointer T)) := TrStep.set T h1 (by decide) hh rfl
  have hpost : ZzPost w base T S (d + 1) b n (.returned (.tuple #[])) (w.setCell ⟨b, 0, none⟩ (.pointer T)) := ⟨rfl, hst, PN.close h1 h2 (by decide) hh (TrStep.refl _ _ _) (.brk h)⟩
  have HP := Lib.hid hpost
  clear hpost hst hh
  rw [show ifc n b = .iface 85 (.pointer (some ⟨b, 0, none⟩)) by unfold ifc; rw [h]; rfl]
  go_enter Tryz.func29, Tryz.ntmps29
  go_wp2
  all_goals (first | go_end0 | refine bodyPost_ret (results_none rfl _ _ _) rfl ?_)
  all_goals exact HP.out

set_option maxHeartbeats 1000000 in
set_option maxRecDepth 100000 in
theorem zz_cont {base b d : Nat} {T p : Option Addr} {S : Nat → Prop} {n : Nd} {w : World} (h : n.kind = 21)  (h1 : base ≤ b) (h2 : S b) (hh : w.heap[b]? = some (.cells #[.pointer p, .int .i64 22, .int .i64 0, .int .i64 0] 89 (0, 0))) :
    Calls Tryz.prog 29 #[ifc n b, .pointer T] w (ZzPost w base T S (d + 1) b n) := by
  have g1 : w.cell? ⟨b, 0, none⟩ = some (.pointer p) := cell_of_heap' hh
  have g2 := fr_at hh 0
  have hst : TrStep base T w (w.setCell ⟨b, 0, none⟩ (.pointer T)) := TrStep.set T h1 (by decide) hh rfl
  have hpost : ZzPost w base T S (d + 1) b n (.returned (.tuple #[])) (w.setCell ⟨b, 0, none⟩ (.pointer T)) := ⟨rfl, hst, PN.close h1 h2 (by decide) hh (TrStep.refl _ _ _) (.cont h)⟩
  have HP := Lib.hid hpost
  clear hpost hst hh
  rw [show ifc n b = .iface 88 (.pointer (some ⟨b, 0, none⟩)) by unfold ifc; rw [h]; rfl]
  go_enter Tryz.func29, Tryz.ntmps29
  go_wp2
  all_goals (first | go_end0 | refine bodyPost_ret (results_none rfl _ _ _) rfl ?_)
  all_goals exact HP.out

set_option maxHeartbeats 1000000 in
set_option maxRecDepth 100000 in
theorem zz_tpl0 {base b d : Nat} {T p : Option Addr} {S : Nat → Prop} {n : Nd} {w : World} (h : n.kind = 16) (hk : n.kids = []) (h1 : base ≤ b) (h2 : S b) (hh : w.heap[b]? = some (.cells #[.int .i64 17, .int .i64 0, .pointer p, .int .i64 0, .string n.text, .pointer none] 98 (0, 0))) :
    Calls Tryz.prog 29 #[ifc n b, .pointer T] w (ZzPost w base T S (d + 1) b n) := by
  have g1 : w.cell? ⟨b, 2, none⟩ = some (.pointer p) := cell_of_heap' hh
  have g2 := fr_at hh 2
  have g3 : w.cell? ⟨b, 5, none⟩ = some (.pointer none) := cell_of_heap' hh
  have g4 : (w.setCell ⟨b, 2, none⟩ (.pointer T)).cell? ⟨b, 5, none⟩ = some (.pointer none) := cell_of_heap' (setCell_heap _ hh)
  have hst : TrStep base T w (w.setCell ⟨b, 2, none⟩ (.pointer T)) := TrStep.set T h1 (by decide) hh rfl
  have hpost : ZzPost w base T S (d + 1) b n (.returned (.tuple #[])) (w.setCell ⟨b, 2, none⟩ (.pointer T)) := ⟨rfl, hst, PN.close h1 h2 (by decide) hh (TrStep.refl _ _ _) (.tpl0 h hk)⟩
  have HP := Lib.hid hpost
  clear hpost hst hh
  rw [show ifc n b = .iface 96 (.pointer (some ⟨b, 0, none⟩)) by unfold ifc; rw [h]; rfl]
  go_enter Tryz.func29, Tryz.ntmps29
  go_wp2
  all_goals (first | go_end0 | refine bodyPost_ret (results_none rfl _ _ _) rfl ?_)
  all_goals exact HP.out

end Go.Proofs.YtiogfkpclkkoaaaGreat
