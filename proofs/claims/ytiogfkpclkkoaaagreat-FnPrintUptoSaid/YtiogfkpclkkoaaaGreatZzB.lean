/-
  The walk of parse.zzTree at the nodes with nodes below them (one). Printed by py/zzb.py.
-/
import Derived.Test.YtiogfkpclkkoaaaGreatZzA
import Derived.LoopTactic
import Derived.Deep.LoopGhost
set_option linter.unusedVariables false
set_option linter.unusedSimpArgs false
namespace Go.Proofs.YtiogfkpclkkoaaaGreat
open Go.RowKit

attribute [local go_sem] ta_TextNode ta_ActionNode ta_BoolNode ta_ChainNode ta_CommandNode ta_DotNode ta_FieldNode ta_IdentifierNode ta_IfNode ta_ListNode ta_NilNode ta_NumberNode ta_PipeNode ta_RangeNode ta_StringNode ta_TemplateNode ta_VariableNode ta_WithNode ta_CommentNode ta_BreakNode ta_ContinueNode

set_option maxHeartbeats 1000000 in
set_option maxRecDepth 100000 in
theorem zz_action {base b d : Nat} {T p : Option Addr} {S : Nat → Prop} {n q : Nd} {bq : Nat} {w : World} (ih : ZzAt base T S d) (sq : Sm d q) (h : n.kind = 2) (hk : n.kids = [q]) (hq : q.kind = 13) (hs : PN w base S TrPtr d bq q) (h1 : base ≤ b) (h2 : S b) (hh : w.heap[b]? = some (.cells #[.int .i64 1, .int .i64 0, .pointer p, .int .i64 0, .pointer (some ⟨bq, 0, none⟩)] 95 (0, 0))) :
    Calls Tryz.prog 29 #[ifc n b, .pointer T] w (ZzPost w base T S (d + 1) b n) := by
  have g1 : w.cell? ⟨b, 2, none⟩ = some (.pointer p) := cell_of_heap' hh
  have g2 := fr_at hh 2
  have g3 : w.cell? ⟨b, 4, none⟩ = some (.pointer (some ⟨bq, 0, none⟩)) := cell_of_heap' hh
  have g4 : (w.setCell ⟨b, 2, none⟩ (.pointer T)).cell? ⟨b, 4, none⟩ = some (.pointer (some ⟨bq, 0, none⟩)) := cell_of_heap' (setCell_heap _ hh)
  have hst : TrStep base T w (w.setCell ⟨b, 2, none⟩ (.pointer T)) := TrStep.set T h1 (by decide) hh rfl
  have hcall := ih bq q _ (PN.step hst ⟨T, rfl⟩ d bq q hs) sq
  rw [show ifc q bq = .iface 90 (.pointer (some ⟨bq, 0, none⟩)) by unfold ifc; rw [hq]; rfl] at hcall
  have hpost : ∀ w2, TrStep base T (w.setCell ⟨b, 2, none⟩ (.pointer T)) w2 → PN w2 base S (TrIs T) d bq q → ZzPost w base T S (d + 1) b n (.returned (.tuple #[])) w2 :=
    fun w2 hst2 hp2 => ⟨rfl, hst.trans hst2, PN.close h1 h2 (by decide) hh hst2 (.action h hk hq hp2)⟩
  have HC := Lib.hid hcall
  have HP := Lib.hid hpost
  clear hcall hpost hst hh hs ih
  rw [show ifc n b = .iface 93 (.pointer (some ⟨b, 0, none⟩)) by unfold ifc; rw [h]; rfl]
  go_enter Tryz.func29, Tryz.ntmps29
  go_wp2_with (go_at_call 29; refine Calls.mono HC.out ?_; rintro e w2 ⟨rfl, hst2, hp2⟩; have ST2 := Lib.hid hst2; have PN2 := Lib.hid hp2; clear hst2 hp2)
  all_goals (first | go_end0 | refine bodyPost_ret (results_none rfl _ _ _) rfl ?_)
  all_goals exact HP.out _ ST2.out PN2.out

set_option maxHeartbeats 1000000 in
set_option maxRecDepth 100000 in
theorem zz_tpl1 {base b d : Nat} {T p : Option Addr} {S : Nat → Prop} {n q : Nd} {bq : Nat} {w : World} (ih : ZzAt base T S d) (sq : Sm d q) (h : n.kind = 16) (hk : n.kids = [q]) (hq : q.kind = 13) (hs : PN w base S TrPtr d bq q) (h1 : base ≤ b) (h2 : S b) (hh : w.heap[b]? = some (.cells #[.int .i64 17, .int .i64 0, .pointer p, .int .i64 0, .string n.text, .pointer (some ⟨bq, 0, none⟩)] 98 (0, 0))) :
    Calls Tryz.prog 29 #[ifc n b, .pointer T] w (ZzPost w base T S (d + 1) b n) := by
  have g1 : w.cell? ⟨b, 2, none⟩ = some (.pointer p) := cell_of_heap' hh
  have g2 := fr_at hh 2
  have g3 : w.cell? ⟨b, 5, none⟩ = some (.pointer (some ⟨bq, 0, none⟩)) := cell_of_heap' hh
  have g4 : (w.setCell ⟨b, 2, none⟩ (.pointer T)).cell? ⟨b, 5, none⟩ = some (.pointer (some ⟨bq, 0, none⟩)) := cell_of_heap' (setCell_heap _ hh)
  have hst : TrStep base T w (w.setCell ⟨b, 2, none⟩ (.pointer T)) := TrStep.set T h1 (by decide) hh rfl
  have hcall := ih bq q _ (PN.step hst ⟨T, rfl⟩ d bq q hs) sq
  rw [show ifc q bq = .iface 90 (.pointer (some ⟨bq, 0, none⟩)) by unfold ifc; rw [hq]; rfl] at hcall
  have hpost : ∀ w2, TrStep base T (w.setCell ⟨b, 2, none⟩ (.pointer T)) w2 → PN w2 base S (TrIs T) d bq q → ZzPost w base T S (d + 1) b n (.returned (.tuple #[])) w2 :=
    fun w2 hst2 hp2 => ⟨rfl, hst.trans hst2, PN.close h1 h2 (by decide) hh hst2 (.tpl1 h hk hq hp2)⟩
  have HC := Lib.hid hcall
  have HP := Lib.hid hpost
  clear hcall hpost hst hh hs ih
  rw [show ifc n b = .iface 96 (.pointer (some ⟨b, 0, none⟩)) by unfold ifc; rw [h]; rfl]
  go_enter Tryz.func29, Tryz.ntmps29
  go_wp2_with (go_at_call 29; refine Calls.mono HC.out ?_; rintro e w2 ⟨rfl, hst2, hp2⟩; have ST2 := Lib.hid hst2; have PN2 := Lib.hid hp2; clear hst2 hp2)
  all_goals (first | go_end0 | refine bodyPost_ret (results_none rfl _ _ _) rfl ?_)
  all_goals exact HP.out _ ST2.out PN2.out

set_option maxHeartbeats 1000000 in
set_option maxRecDepth 100000 in
theorem zz_chain {base b d : Nat} {T p : Option Addr} {S : Nat → Prop} {n q : Nd} {bq : Nat} {w : World} (ih : ZzAt base T S d) (sq : Sm d q) (h : n.kind = 4) {nv : Value} (hk : n.kids = [q]) (hs : PN w base S TrPtr d bq q) (hx : Strs w S nv n.names) (h1 : base ≤ b) (h2 : S b) (hh : w.heap[b]? = some (.cells #[.int .i64 3, .int .i64 0, .pointer p, .iface (ptrT q.kind) (.pointer (some ⟨bq, 0, none⟩)), nv] 111 (0, 0))) :
    Calls Tryz.prog 29 #[ifc n b, .pointer T] w (ZzPost w base T S (d + 1) b n) := by
  have g1 : w.cell? ⟨b, 2, none⟩ = some (.pointer p) := cell_of_heap' hh
  have g2 := fr_at hh 2
  have g3 : w.cell? ⟨b, 3, none⟩ = some (.iface (ptrT q.kind) (.pointer (some ⟨bq, 0, none⟩))) := cell_of_heap' hh
  have g4 : (w.setCell ⟨b, 2, none⟩ (.pointer T)).cell? ⟨b, 3, none⟩ = some (.iface (ptrT q.kind) (.pointer (some ⟨bq, 0, none⟩))) := cell_of_heap' (setCell_heap _ hh)
  have hst : TrStep base T w (w.setCell ⟨b, 2, none⟩ (.pointer T)) := TrStep.set T h1 (by decide) hh rfl
  have hcall := ih bq q _ (PN.step hst ⟨T, rfl⟩ d bq q hs) sq
  rw [show ifc q bq = .iface (ptrT q.kind) (.pointer (some ⟨bq, 0, none⟩)) by rfl] at hcall
  have hpost : ∀ w2, TrStep base T (w.setCell ⟨b, 2, none⟩ (.pointer T)) w2 → PN w2 base S (TrIs T) d bq q → ZzPost w base T S (d + 1) b n (.returned (.tuple #[])) w2 :=
    fun w2 hst2 hp2 => ⟨rfl, hst.trans hst2, PN.close h1 h2 (by decide) hh hst2 (.chain h hk hp2 ((hx.step hst).step hst2))⟩
  have HC := Lib.hid hcall
  have HP := Lib.hid hpost
  clear hcall hpost hst hh hs ih hx
  rw [show ifc n b = .iface 109 (.pointer (some ⟨b, 0, none⟩)) by unfold ifc; rw [h]; rfl]
  generalize ptrT q.kind = K at *
  go_enter Tryz.func29, Tryz.ntmps29
  go_wp2_with (go_at_call 29; refine Calls.mono HC.out ?_; rintro e w2 ⟨rfl, hst2, hp2⟩; have ST2 := Lib.hid hst2; have PN2 := Lib.hid hp2; clear hst2 hp2)
  all_goals (first | go_end0 | refine bodyPost_ret (results_none rfl _ _ _) rfl ?_)
  all_goals exact HP.out _ ST2.out PN2.out

set_option maxHeartbeats 1000000 in
set_option maxRecDepth 100000 in
theorem zzBranch0 {base b d : Nat} {T p : Option Addr} {S : Nat → Prop} {ty : Int} {E : TypeId} {q l : Nd} {bp bl : Nat} {w : World} (ih : ZzAt base T S d) (zq : Sm d q) (zl : Sm d l) (hE : triOf E = some 2) (hq : q.kind = 13) (hl : l.kind = 10) (sp : PN w base S TrPtr d bp q) (sl : PN w base S TrPtr d bl l)
    (h1 : base ≤ b) (h2 : S b) (hh : w.heap[b]? = some (.cells #[.int .i64 ty, .int .i64 0, .pointer p, .int .i64 0, .pointer (some ⟨bp, 0, none⟩), .pointer (some ⟨bl, 0, none⟩), .pointer none] E (0, 0))) :
    Calls Tryz.prog 30 #[.pointer (some ⟨b, 0, none⟩), .pointer T] w fun e wn => e = .returned (.tuple #[]) ∧ TrStep base T (w.setCell ⟨b, 2, none⟩ (.pointer T)) wn ∧ PN wn base S (TrIs T) d bp q ∧ PN wn base S (TrIs T) d bl l := by
  have g1 : w.cell? ⟨b, 2, none⟩ = some (.pointer p) := cell_of_heap' hh
  have g2 := fr_at hh 2
  have hs1 := setCell_heap (i := 2) (.pointer T) hh
  have hst : TrStep base T w (w.setCell ⟨b, 2, none⟩ (.pointer T)) := TrStep.set T h1 hE hh rfl
  have g3 : w.cell? ⟨b, 4, none⟩ = some (.pointer (some ⟨bp, 0, none⟩)) := cell_of_heap' hh
  have g4 : (w.setCell ⟨b, 2, none⟩ (.pointer T)).cell? ⟨b, 4, none⟩ = some (.pointer (some ⟨bp, 0, none⟩)) := cell_of_heap' hs1
  have keep : ∀ wn, TrStep base T (w.setCell ⟨b, 2, none⟩ (.pointer T)) wn → wn.heap[b]? = some (.cells #[.int .i64 ty, .int .i64 0, .pointer T, .int .i64 0, .pointer (some ⟨bp, 0, none⟩), .pointer (some ⟨bl, 0, none⟩), .pointer none] E (0, 0)) := fun wn hst => by
    rcases hst.2.2 b with e | ⟨_, E', cs', i', p, ht, e1, e2, e3⟩
    · exact e.trans hs1
    · rw [hs1] at e1
      injection e1 with e1
      injection e1 with x1 x2 x3
      subst x2
      obtain rfl : 2 = i' := by rw [hE] at ht; exact Option.some.inj ht
      rw [e3, ← x1]
      rfl
  have hc1 := ih bp q _ (PN.step hst ⟨T, rfl⟩ d bp q sp) zq
  rw [show ifc q bp = .iface 90 (.pointer (some ⟨bp, 0, none⟩)) by unfold ifc; rw [hq]; rfl] at hc1
  have hc2 : ∀ wn, TrStep base T (w.setCell ⟨b, 2, none⟩ (.pointer T)) wn → Calls Tryz.prog 29 #[.iface 106 (.pointer (some ⟨bl, 0, none⟩)), .pointer T] wn (ZzPost wn base T S d bl l) := fun wn h => by
    have := ih bl l wn (PN.step h ⟨T, rfl⟩ d bl l (PN.step hst ⟨T, rfl⟩ d bl l sl)) zl
    rwa [show ifc l bl = .iface 106 (.pointer (some ⟨bl, 0, none⟩)) by unfold ifc; rw [hl]; rfl] at this
  have HC1 := Lib.hid hc1
  have HC2 := Lib.hid hc2
  have KP := Lib.hid keep
  clear hc1 hc2 keep hst hh sp sl ih hs1
  go_enter Tryz.func30, Tryz.ntmps30
  go_wp2_with (first
    | (go_at_call_of 29 bp; refine Calls.mono HC1.out ?_; rintro e w2 ⟨rfl, hst2, hp2⟩; have g5 : w2.cell? ⟨b, 5, none⟩ = some (.pointer (some ⟨bl, 0, none⟩)) := cell_of_heap' (KP.out _ hst2); have ST2 := Lib.hid hst2; have PN2 := Lib.hid hp2; clear hst2 hp2)
    | (go_at_call_of 29 bl; refine Calls.mono (HC2.out _ ST2.out) ?_; rintro e w3 ⟨rfl, hst3, hp3⟩; have hst3' := ST2.out.trans hst3; have g6 : w3.cell? ⟨b, 6, none⟩ = some (.pointer none) := cell_of_heap' (KP.out _ hst3'); have PN3 := Lib.hid (PN.step hst3 (tr := TrIs T) rfl d _ _ PN2.out); have ST3 := Lib.hid hst3'; have QN3 := Lib.hid hp3; clear hst3 hst3' hp3))
  all_goals (first | go_end0 | refine bodyPost_ret (results_none rfl _ _ _) rfl ?_)
  all_goals exact ⟨rfl, ST3.out, PN3.out, QN3.out⟩

set_option maxHeartbeats 1000000 in
set_option maxRecDepth 100000 in
theorem zz_if0 {base b d : Nat} {T p : Option Addr} {S : Nat → Prop} {n q l : Nd} {bp bl : Nat} {w : World} (ih : ZzAt base T S d) (zq : Sm d q) (zl : Sm d l) (h : n.kind = 9) (hk : n.kids = [q, l]) (he : n.hasElse = false) (hq : q.kind = 13) (hl : l.kind = 10) (sp : PN w base S TrPtr d bp q) (sl : PN w base S TrPtr d bl l)
    (h1 : base ≤ b) (h2 : S b) (hh : w.heap[b]? = some (.cells #[.int .i64 10, .int .i64 0, .pointer p, .int .i64 0, .pointer (some ⟨bp, 0, none⟩), .pointer (some ⟨bl, 0, none⟩), .pointer none] 118 (0, 0))) :
    Calls Tryz.prog 29 #[ifc n b, .pointer T] w (ZzPost w base T S (d + 1) b n) := by
  have hcall := zzBranch0 ih zq zl (show triOf 118 = some 2 by decide) hq hl sp sl h1 h2 hh
  have hst : TrStep base T w (w.setCell ⟨b, 2, none⟩ (.pointer T)) := TrStep.set T h1 (by decide) hh rfl
  have hpost : ∀ wn, TrStep base T (w.setCell ⟨b, 2, none⟩ (.pointer T)) wn → PN wn base S (TrIs T) d bp q → PN wn base S (TrIs T) d bl l → ZzPost w base T S (d + 1) b n (.returned (.tuple #[])) wn :=
    fun wn hst2 a1 a2 => ⟨rfl, hst.trans hst2, PN.close h1 h2 (by decide) hh hst2 (.branch0 (Or.inl ⟨h, rfl, rfl⟩) hk he hq hl a1 a2)⟩
  have HC := Lib.hid hcall
  have HP := Lib.hid hpost
  clear hcall hpost hst hh sp sl ih
  rw [show ifc n b = .iface 116 (.pointer (some ⟨b, 0, none⟩)) by unfold ifc; rw [h]; rfl]
  go_enter Tryz.func29, Tryz.ntmps29
  go_wp2_with (go_at_call 30; refine Calls.mono HC.out ?_; rintro e wn ⟨rfl, hst2, a1, a2⟩; have ST2 := Lib.hid hst2; have A1 := Lib.hid a1; have A2 := Lib.hid a2; clear hst2 a1 a2)
  all_goals (first | go_end0 | refine bodyPost_ret (results_none rfl _ _ _) rfl ?_)
  all_goals exact HP.out _ ST2.out A1.out A2.out

set_option maxHeartbeats 1000000 in
set_option maxRecDepth 100000 in
theorem zz_range0 {base b d : Nat} {T p : Option Addr} {S : Nat → Prop} {n q l : Nd} {bp bl : Nat} {w : World} (ih : ZzAt base T S d) (zq : Sm d q) (zl : Sm d l) (h : n.kind = 14) (hk : n.kids = [q, l]) (he : n.hasElse = false) (hq : q.kind = 13) (hl : l.kind = 10) (sp : PN w base S TrPtr d bp q) (sl : PN w base S TrPtr d bl l)
    (h1 : base ≤ b) (h2 : S b) (hh : w.heap[b]? = some (.cells #[.int .i64 15, .int .i64 0, .pointer p, .int .i64 0, .pointer (some ⟨bp, 0, none⟩), .pointer (some ⟨bl, 0, none⟩), .pointer none] 120 (0, 0))) :
    Calls Tryz.prog 29 #[ifc n b, .pointer T] w (ZzPost w base T S (d + 1) b n) := by
  have hcall := zzBranch0 ih zq zl (show triOf 120 = some 2 by decide) hq hl sp sl h1 h2 hh
  have hst : TrStep base T w (w.setCell ⟨b, 2, none⟩ (.pointer T)) := TrStep.set T h1 (by decide) hh rfl
  have hpost : ∀ wn, TrStep base T (w.setCell ⟨b, 2, none⟩ (.pointer T)) wn → PN wn base S (TrIs T) d bp q → PN wn base S (TrIs T) d bl l → ZzPost w base T S (d + 1) b n (.returned (.tuple #[])) wn :=
    fun wn hst2 a1 a2 => ⟨rfl, hst.trans hst2, PN.close h1 h2 (by decide) hh hst2 (.branch0 (Or.inr (Or.inl ⟨h, rfl, rfl⟩)) hk he hq hl a1 a2)⟩
  have HC := Lib.hid hcall
  have HP := Lib.hid hpost
  clear hcall hpost hst hh sp sl ih
  rw [show ifc n b = .iface 119 (.pointer (some ⟨b, 0, none⟩)) by unfold ifc; rw [h]; rfl]
  go_enter Tryz.func29, Tryz.ntmps29
  go_wp2_with (go_at_call 30; refine Calls.mono HC.out ?_; rintro e wn ⟨rfl, hst2, a1, a2⟩; have ST2 := Lib.hid hst2; have A1 := Lib.hid a1; have A2 := Lib.hid a2; clear hst2 a1 a2)
  all_goals (first | go_end0 | refine bodyPost_ret (results_none rfl _ _ _) rfl ?_)
  all_goals exact HP.out _ ST2.out A1.out A2.out

set_option maxHeartbeats 1000000 in
set_option maxRecDepth 100000 in
theorem zz_with0 {base b d : Nat} {T p : Option Addr} {S : Nat → Prop} {n q l : Nd} {bp bl : Nat} {w : World} (ih : ZzAt base T S d) (zq : Sm d q) (zl : Sm d l) (h : n.kind = 18) (hk : n.kids = [q, l]) (he : n.hasElse = false) (hq : q.kind = 13) (hl : l.kind = 10) (sp : PN w base S TrPtr d bp q) (sl : PN w base S TrPtr d bl l)
    (h1 : base ≤ b) (h2 : S b) (hh : w.heap[b]? = some (.cells #[.int .i64 19, .int .i64 0, .pointer p, .int .i64 0, .pointer (some ⟨bp, 0, none⟩), .pointer (some ⟨bl, 0, none⟩), .pointer none] 122 (0, 0))) :
    Calls Tryz.prog 29 #[ifc n b, .pointer T] w (ZzPost w base T S (d + 1) b n) := by
  have hcall := zzBranch0 ih zq zl (show triOf 122 = some 2 by decide) hq hl sp sl h1 h2 hh
  have hst : TrStep base T w (w.setCell ⟨b, 2, none⟩ (.pointer T)) := TrStep.set T h1 (by decide) hh rfl
  have hpost : ∀ wn, TrStep base T (w.setCell ⟨b, 2, none⟩ (.pointer T)) wn → PN wn base S (TrIs T) d bp q → PN wn base S (TrIs T) d bl l → ZzPost w base T S (d + 1) b n (.returned (.tuple #[])) wn :=
    fun wn hst2 a1 a2 => ⟨rfl, hst.trans hst2, PN.close h1 h2 (by decide) hh hst2 (.branch0 (Or.inr (Or.inr ⟨h, rfl, rfl⟩)) hk he hq hl a1 a2)⟩
  have HC := Lib.hid hcall
  have HP := Lib.hid hpost
  clear hcall hpost hst hh sp sl ih
  rw [show ifc n b = .iface 121 (.pointer (some ⟨b, 0, none⟩)) by unfold ifc; rw [h]; rfl]
  go_enter Tryz.func29, Tryz.ntmps29
  go_wp2_with (go_at_call 30; refine Calls.mono HC.out ?_; rintro e wn ⟨rfl, hst2, a1, a2⟩; have ST2 := Lib.hid hst2; have A1 := Lib.hid a1; have A2 := Lib.hid a2; clear hst2 a1 a2)
  all_goals (first | go_end0 | refine bodyPost_ret (results_none rfl _ _ _) rfl ?_)
  all_goals exact HP.out _ ST2.out A1.out A2.out

set_option maxHeartbeats 1000000 in
set_option maxRecDepth 100000 in
theorem zzBranch1 {base b d : Nat} {T p : Option Addr} {S : Nat → Prop} {ty : Int} {E : TypeId} {q l x : Nd} {bp bl be : Nat} {w : World} (ih : ZzAt base T S d) (zq : Sm d q) (zl : Sm d l) (zx : Sm d x) (hE : triOf E = some 2) (hq : q.kind = 13) (hl : l.kind = 10) (hx : x.kind = 10) (sp : PN w base S TrPtr d bp q) (sl : PN w base S TrPtr d bl l) (sx : PN w base S TrPtr d be x)
    (h1 : base ≤ b) (h2 : S b) (hh : w.heap[b]? = some (.cells #[.int .i64 ty, .int .i64 0, .pointer p, .int .i64 0, .pointer (some ⟨bp, 0, none⟩), .pointer (some ⟨bl, 0, none⟩), .pointer (some ⟨be, 0, none⟩)] E (0, 0))) :
    Calls Tryz.prog 30 #[.pointer (some ⟨b, 0, none⟩), .pointer T] w fun e wn => e = .returned (.tuple #[]) ∧ TrStep base T (w.setCell ⟨b, 2, none⟩ (.pointer T)) wn ∧ PN wn base S (TrIs T) d bp q ∧ PN wn base S (TrIs T) d bl l ∧ PN wn base S (TrIs T) d be x := by
  have g1 : w.cell? ⟨b, 2, none⟩ = some (.pointer p) := cell_of_heap' hh
  have g2 := fr_at hh 2
  have hs1 := setCell_heap (i := 2) (.pointer T) hh
  have hst : TrStep base T w (w.setCell ⟨b, 2, none⟩ (.pointer T)) := TrStep.set T h1 hE hh rfl
  have g3 : w.cell? ⟨b, 4, none⟩ = some (.pointer (some ⟨bp, 0, none⟩)) := cell_of_heap' hh
  have g4 : (w.setCell ⟨b, 2, none⟩ (.pointer T)).cell? ⟨b, 4, none⟩ = some (.pointer (some ⟨bp, 0, none⟩)) := cell_of_heap' hs1
  have keep : ∀ wn, TrStep base T (w.setCell ⟨b, 2, none⟩ (.pointer T)) wn → wn.heap[b]? = some (.cells #[.int .i64 ty, .int .i64 0, .pointer T, .int .i64 0, .pointer (some ⟨bp, 0, none⟩), .pointer (some ⟨bl, 0, none⟩), .pointer (some ⟨be, 0, none⟩)] E (0, 0)) := fun wn hst => by
    rcases hst.2.2 b with e | ⟨_, E', cs', i', p, ht, e1, e2, e3⟩
    · exact e.trans hs1
    · rw [hs1] at e1
      injection e1 with e1
      injection e1 with x1 x2 x3
      subst x2
      obtain rfl : 2 = i' := by rw [hE] at ht; exact Option.some.inj ht
      rw [e3, ← x1]
      rfl
  have hc1 := ih bp q _ (PN.step hst ⟨T, rfl⟩ d bp q sp) zq
  rw [show ifc q bp = .iface 90 (.pointer (some ⟨bp, 0, none⟩)) by unfold ifc; rw [hq]; rfl] at hc1
  have hc2 : ∀ wn, TrStep base T (w.setCell ⟨b, 2, none⟩ (.pointer T)) wn → Calls Tryz.prog 29 #[.iface 106 (.pointer (some ⟨bl, 0, none⟩)), .pointer T] wn (ZzPost wn base T S d bl l) := fun wn h => by
    have := ih bl l wn (PN.step h ⟨T, rfl⟩ d bl l (PN.step hst ⟨T, rfl⟩ d bl l sl)) zl
    rwa [show ifc l bl = .iface 106 (.pointer (some ⟨bl, 0, none⟩)) by unfold ifc; rw [hl]; rfl] at this
  have hc3 : ∀ wn, TrStep base T (w.setCell ⟨b, 2, none⟩ (.pointer T)) wn → Calls Tryz.prog 29 #[.iface 106 (.pointer (some ⟨be, 0, none⟩)), .pointer T] wn (ZzPost wn base T S d be x) := fun wn h => by
    have := ih be x wn (PN.step h ⟨T, rfl⟩ d be x (PN.step hst ⟨T, rfl⟩ d be x sx)) zx
    rwa [show ifc x be = .iface 106 (.pointer (some ⟨be, 0, none⟩)) by unfold ifc; rw [hx]; rfl] at this
  have HC3 := Lib.hid hc3
  clear hc3
  have HC1 := Lib.hid hc1
  have HC2 := Lib.hid hc2
  have KP := Lib.hid keep
  clear hc1 hc2 keep hst hh sp sl ih hs1 sx
  go_enter Tryz.func30, Tryz.ntmps30
  go_wp2_with (first
    | (go_at_call_of 29 bp; refine Calls.mono HC1.out ?_; rintro e w2 ⟨rfl, hst2, hp2⟩; have g5 : w2.cell? ⟨b, 5, none⟩ = some (.pointer (some ⟨bl, 0, none⟩)) := cell_of_heap' (KP.out _ hst2); have ST2 := Lib.hid hst2; have PN2 := Lib.hid hp2; clear hst2 hp2)
    | (go_at_call_of 29 bl; refine Calls.mono (HC2.out _ ST2.out) ?_; rintro e w3 ⟨rfl, hst3, hp3⟩; have hst3' := ST2.out.trans hst3; have g6 : w3.cell? ⟨b, 6, none⟩ = some (.pointer (some ⟨be, 0, none⟩)) := cell_of_heap' (KP.out _ hst3'); have PN3 := Lib.hid (PN.step hst3 (tr := TrIs T) rfl d _ _ PN2.out); have ST3 := Lib.hid hst3'; have QN3 := Lib.hid hp3; clear hst3 hst3' hp3)
    | (go_at_call_of 29 be; refine Calls.mono (HC3.out _ ST3.out) ?_; rintro e w4 ⟨rfl, hst4, hp4⟩; have hst4' := ST3.out.trans hst4; have PN4 := Lib.hid (PN.step hst4 (tr := TrIs T) rfl d _ _ PN3.out); have QN4 := Lib.hid (PN.step hst4 (tr := TrIs T) rfl d _ _ QN3.out); have ST4 := Lib.hid hst4'; have RN4 := Lib.hid hp4; clear hst4 hst4' hp4))
  all_goals (first | go_end0 | refine bodyPost_ret (results_none rfl _ _ _) rfl ?_)
  all_goals exact ⟨rfl, ST4.out, PN4.out, QN4.out, RN4.out⟩

set_option maxHeartbeats 1000000 in
set_option maxRecDepth 100000 in
theorem zz_if1 {base b d : Nat} {T p : Option Addr} {S : Nat → Prop} {n q l x : Nd} {bp bl be : Nat} {w : World} (ih : ZzAt base T S d) (zq : Sm d q) (zl : Sm d l) (zx : Sm d x) (h : n.kind = 9) (hk : n.kids = [q, l]) (he : n.hasElse = true) (hels : n.els = [x]) (hq : q.kind = 13) (hl : l.kind = 10) (hx : x.kind = 10) (sp : PN w base S TrPtr d bp q) (sl : PN w base S TrPtr d bl l) (sx : PN w base S TrPtr d be x)
    (h1 : base ≤ b) (h2 : S b) (hh : w.heap[b]? = some (.cells #[.int .i64 10, .int .i64 0, .pointer p, .int .i64 0, .pointer (some ⟨bp, 0, none⟩), .pointer (some ⟨bl, 0, none⟩), .pointer (some ⟨be, 0, none⟩)] 118 (0, 0))) :
    Calls Tryz.prog 29 #[ifc n b, .pointer T] w (ZzPost w base T S (d + 1) b n) := by
  have hcall := zzBranch1 ih zq zl zx (show triOf 118 = some 2 by decide) hq hl hx sp sl sx h1 h2 hh
  have hst : TrStep base T w (w.setCell ⟨b, 2, none⟩ (.pointer T)) := TrStep.set T h1 (by decide) hh rfl
  have hpost : ∀ wn, TrStep base T (w.setCell ⟨b, 2, none⟩ (.pointer T)) wn → PN wn base S (TrIs T) d bp q → PN wn base S (TrIs T) d bl l → PN wn base S (TrIs T) d be x → ZzPost w base T S (d + 1) b n (.returned (.tuple #[])) wn :=
    fun wn hst2 a1 a2 a3 => ⟨rfl, hst.trans hst2, PN.close h1 h2 (by decide) hh hst2 (.branch1 (Or.inl ⟨h, rfl, rfl⟩) hk he hels hq hl hx a1 a2 a3)⟩
  have HC := Lib.hid hcall
  have HP := Lib.hid hpost
  clear hcall hpost hst hh sp sl ih sx
  rw [show ifc n b = .iface 116 (.pointer (some ⟨b, 0, none⟩)) by unfold ifc; rw [h]; rfl]
  go_enter Tryz.func29, Tryz.ntmps29
  go_wp2_with (go_at_call 30; refine Calls.mono HC.out ?_; rintro e wn ⟨rfl, hst2, a1, a2, a3⟩; have ST2 := Lib.hid hst2; have A1 := Lib.hid a1; have A2 := Lib.hid a2; have A3 := Lib.hid a3; clear hst2 a1 a2 a3)
  all_goals (first | go_end0 | refine bodyPost_ret (results_none rfl _ _ _) rfl ?_)
  all_goals exact HP.out _ ST2.out A1.out A2.out A3.out

set_option maxHeartbeats 1000000 in
set_option maxRecDepth 100000 in
theorem zz_range1 {base b d : Nat} {T p : Option Addr} {S : Nat → Prop} {n q l x : Nd} {bp bl be : Nat} {w : World} (ih : ZzAt base T S d) (zq : Sm d q) (zl : Sm d l) (zx : Sm d x) (h : n.kind = 14) (hk : n.kids = [q, l]) (he : n.hasElse = true) (hels : n.els = [x]) (hq : q.kind = 13) (hl : l.kind = 10) (hx : x.kind = 10) (sp : PN w base S TrPtr d bp q) (sl : PN w base S TrPtr d bl l) (sx : PN w base S TrPtr d be x)
    (h1 : base ≤ b) (h2 : S b) (hh : w.heap[b]? = some (.cells #[.int .i64 15, .int .i64 0, .pointer p, .int .i64 0, .pointer (some ⟨bp, 0, none⟩), .pointer (some ⟨bl, 0, none⟩), .pointer (some ⟨be, 0, none⟩)] 120 (0, 0))) :
    Calls Tryz.prog 29 #[ifc n b, .pointer T] w (ZzPost w base T S (d + 1) b n) := by
  have hcall := zzBranch1 ih zq zl zx (show triOf 120 = some 2 by decide) hq hl hx sp sl sx h1 h2 hh
  have hst : TrStep base T w (w.setCell ⟨b, 2, none⟩ (.pointer T)) := TrStep.set T h1 (by decide) hh rfl
  have hpost : ∀ wn, TrStep base T (w.setCell ⟨b, 2, none⟩ (.pointer T)) wn → PN wn base S (TrIs T) d bp q → PN wn base S (TrIs T) d bl l → PN wn base S (TrIs T) d be x → ZzPost w base T S (d + 1) b n (.returned (.tuple #[])) wn :=
    fun wn hst2 a1 a2 a3 => ⟨rfl, hst.trans hst2, PN.close h1 h2 (by decide) hh hst2 (.branch1 (Or.inr (Or.inl ⟨h, rfl, rfl⟩)) hk he hels hq hl hx a1 a2 a3)⟩
  have HC := Lib.hid hcall
  have HP := Lib.hid hpost
  clear hcall hpost hst hh sp sl ih sx
  rw [show ifc n b = .iface 119 (.pointer (some ⟨b, 0, none⟩)) by unfold ifc; rw [h]; rfl]
  go_enter Tryz.func29, Tryz.ntmps29
  go_wp2_with (go_at_call 30; refine Calls.mono HC.out ?_; rintro e wn ⟨rfl, hst2, a1, a2, a3⟩; have ST2 := Lib.hid hst2; have A1 := Lib.hid a1; have A2 := Lib.hid a2; have A3 := Lib.hid a3; clear hst2 a1 a2 a3)
  all_goals (first | go_end0 | refine bodyPost_ret (results_none rfl _ _ _) rfl ?_)
  all_goals exact HP.out _ ST2.out A1.out A2.out A3.out

set_option maxHeartbeats 1000000 in
set_option maxRecDepth 100000 in
theorem zz_with1 {base b d : Nat} {T p : Option Addr} {S : Nat → Prop} {n q l x : Nd} {bp bl be : Nat} {w : World} (ih : ZzAt base T S d) (zq : Sm d q) (zl : Sm d l) (zx : Sm d x) (h : n.kind = 18) (hk : n.kids = [q, l]) (he : n.hasElse = true) (hels : n.els = [x]) (hq : q.kind = 13) (hl : l.kind = 10) (hx : x.kind = 10) (sp : PN w base S TrPtr d bp q) (sl : PN w base S TrPtr d bl l) (sx : PN w base S TrPtr d be x)
    (h1 : base ≤ b) (h2 : S b) (hh : w.heap[b]? = some (.cells #[.int .i64 19, .int .i64 0, .pointer p, .int .i64 0, .pointer (some ⟨bp, 0, none⟩), .pointer (some ⟨bl, 0, none⟩), .pointer (some ⟨be, 0, none⟩)] 122 (0, 0))) :
    Calls Tryz.prog 29 #[ifc n b, .pointer T] w (ZzPost w base T S (d + 1) b n) := by
  have hcall := zzBranch1 ih zq zl zx (show triOf 122 = some 2 by decide) hq hl hx sp sl sx h1 h2 hh
  have hst : TrStep base T w (w.setCell ⟨b, 2, none⟩ (.pointer T)) := TrStep.set T h1 (by decide) hh rfl
  have hpost : ∀ wn, TrStep base T (w.setCell ⟨b, 2, none⟩ (.pointer T)) wn → PN wn base S (TrIs T) d bp q → PN wn base S (TrIs T) d bl l → PN wn base S (TrIs T) d be x → ZzPost w base T S (d + 1) b n (.returned (.tuple #[])) wn :=
    fun wn hst2 a1 a2 a3 => ⟨rfl, hst.trans hst2, PN.close h1 h2 (by decide) hh hst2 (.branch1 (Or.inr (Or.inr ⟨h, rfl, rfl⟩)) hk he hels hq hl hx a1 a2 a3)⟩
  have HC := Lib.hid hcall
  have HP := Lib.hid hpost
  clear hcall hpost hst hh sp sl ih sx
  rw [show ifc n b = .iface 121 (.pointer (some ⟨b, 0, none⟩)) by unfold ifc; rw [h]; rfl]
  go_enter Tryz.func29, Tryz.ntmps29
  go_wp2_with (go_at_call 30; refine Calls.mono HC.out ?_; rintro e wn ⟨rfl, hst2, a1, a2, a3⟩; have ST2 := Lib.hid hst2; have A1 := Lib.hid a1; have A2 := Lib.hid a2; have A3 := Lib.hid a3; clear hst2 a1 a2 a3)
  all_goals (first | go_end0 | refine bodyPost_ret (results_none rfl _ _ _) rfl ?_)
  all_goals exact HP.out _ ST2.out A1.out A2.out A3.out

end Go.Proofs.YtiogfkpclkkoaaaGreat
