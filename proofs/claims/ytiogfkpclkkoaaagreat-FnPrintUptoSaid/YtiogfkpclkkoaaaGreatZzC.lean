/-
  The walk of parse.zzTree at the nodes with nodes below them (rows). Printed by py/zzb.py.
-/
import Derived.Test.YtiogfkpclkkoaaaGreatZzA
import Derived.LoopTactic
import Derived.Deep.LoopGhost
set_option linter.unusedVariables false
set_option linter.unusedSimpArgs false
namespace Go.Proofs.YtiogfkpclkkoaaaGreat
open Go.RowKit

attribute [local go_sem] ta_TextNode ta_ActionNode ta_BoolNode ta_ChainNode ta_CommandNode ta_DotNode ta_FieldNode ta_IdentifierNode ta_IfNode ta_ListNode ta_NilNode ta_NumberNode ta_PipeNode ta_RangeNode ta_StringNode ta_TemplateNode ta_VariableNode ta_WithNode ta_CommentNode ta_BreakNode ta_ContinueNode

set_option maxHeartbeats 1000000 in
set_option maxRecDepth 100000 in
theorem zz_command {base b d : Nat} {T p : Option Addr} {S : Nat → Prop} {n : Nd} {kv : Value} {w : World} (ih : ZzAt base T S d) (h : n.kind = 5) (rk : RowP w S 41 ifc (PN w base S TrPtr d) kv n.kids) (hlen : n.kids.length ≤ 1048576) (sk : ∀ p ∈ n.kids, Sm d p) (h1 : base ≤ b) (h2 : S b) (hh : w.heap[b]? = some (.cells #[.int .i64 4, .int .i64 0, .pointer p, kv] 105 (0, 0))) :
    Calls Tryz.prog 29 #[ifc n b, .pointer T] w (ZzPost w base T S (d + 1) b n) := by
  obtain ⟨A, c, rfl⟩ := rk.form
  have g1 : w.cell? ⟨b, 2, none⟩ = some (.pointer p) := cell_of_heap' hh
  have g2 := fr_at hh 2
  have g3 : w.cell? ⟨b, 3, none⟩ = some (.slice A n.kids.length c) := cell_of_heap' hh
  have hst : TrStep base T w (w.setCell ⟨b, 2, none⟩ (.pointer T)) := TrStep.set T h1 (by decide) hh rfl
  have rk1 := rk.step hst (by decide) (PN.step hst ⟨T, rfl⟩ d)
  have hz0 := ZL.zero (TrStep.refl base T (w.setCell ⟨b, 2, none⟩ (.pointer T))) rk1
  have hpost : ∀ wn, ZL (w.setCell ⟨b, 2, none⟩ (.pointer T)) wn base S T d 41 ifc (.slice A n.kids.length c) n.kids n.kids.length → ZzPost w base T S (d + 1) b n (.returned (.tuple #[])) wn :=
    fun wn hz => ⟨rfl, hst.trans hz.1, PN.close h1 h2 (by decide) hh hz.1 (.command h (hz.done rfl))⟩
  rw [show ifc n b = .iface 103 (.pointer (some ⟨b, 0, none⟩)) by unfold ifc; rw [h]; rfl]
  generalize n.kids = kids at *
  have HP := Lib.hid hpost
  have HZ0 := Lib.hid hz0
  have IH := Lib.hid ih
  have SKk := Lib.hid sk
  clear hpost hst hh rk rk1 hz0 ih sk
  generalize hm : kids.length = m at *
  have M := Lib.hid hm
  clear hm
  go_enter Tryz.func29, Tryz.ntmps29
  go_wp2_with fail
  go_loopw [94] (fun i wr => ∃ k : Nat, k ≤ m ∧ i = .int .i64 k ∧ ZL (w.setCell ⟨b, 2, none⟩ (.pointer T)) wr base S T d 41 ifc (.slice A m c) kids k) (fun i _ => m - (intOf i).toNat)
  case atStart => exact ⟨0, Nat.zero_le _, rfl, HZ0.out⟩
  case round =>
    have ih' := IH.out
    obtain ⟨k, hk, rfl, hz⟩ := hrel
    by_cases hltk : k < m
    · have hlt' : k < kids.length := by rw [M.out]; exact hltk
      have ZK := Lib.hid hz
      rw [← M.out] at hz
      obtain ⟨g, b', p', hp, rfl, q0, hpn⟩ := hz.at hlt'
      have ZK' := Lib.hid hz
      have hcall := ih' b' p' wr hpn (by rw [← hp]; exact SKk.out _ (List.getElem_mem _))
      have Q0 := Lib.hid q0
      have P0 := Lib.hid hp
      clear ih'
      unfold ifc at q0 hcall
      generalize ptrT p'.kind = K at q0 hcall
      clear hz hpn hp
      have HC := Lib.hid hcall
      clear hcall
      go_wp2_with (go_at_call 29; refine Calls.mono HC.out ?_; rintro e w2 ⟨rfl, hst2, hp2⟩; have ST2 := Lib.hid hst2; have PN2 := Lib.hid hp2; clear hst2 hp2)
      go_roundw
      case rel =>
        have hx2 := ZK'.out.succ hlt' P0.out (by decide) ifc_inj ST2.out Q0.out PN2.out
        rw [M.out] at hx2
        first | exact ⟨k + 1, by omega, by go_num, hx2⟩ | ((repeat apply Exists.intro); exact ⟨⟨k + 1, by omega, by go_num, hx2⟩, rfl⟩)
      case measure => simp [intOf]; omega
    · have hk' : k = m := by omega
      subst hk'
      clear ih'
      go_wp2
      all_goals (first | go_end0 | refine bodyPost_ret (results_none rfl _ _ _) rfl ?_)
      all_goals exact HP.out _ hz

set_option maxHeartbeats 1000000 in
set_option maxRecDepth 100000 in
theorem zz_list {base b d : Nat} {T p : Option Addr} {S : Nat → Prop} {n : Nd} {kv : Value} {w : World} (ih : ZzAt base T S d) (h : n.kind = 10) (rk : RowP w S 41 ifc (PN w base S TrPtr d) kv n.kids) (hlen : n.kids.length ≤ 1048576) (sk : ∀ p ∈ n.kids, Sm d p) (h1 : base ≤ b) (h2 : S b) (hh : w.heap[b]? = some (.cells #[.int .i64 11, .int .i64 0, .pointer p, kv] 142 (0, 0))) :
    Calls Tryz.prog 29 #[ifc n b, .pointer T] w (ZzPost w base T S (d + 1) b n) := by
  obtain ⟨A, c, rfl⟩ := rk.form
  have g1 : w.cell? ⟨b, 2, none⟩ = some (.pointer p) := cell_of_heap' hh
  have g2 := fr_at hh 2
  have g3 : w.cell? ⟨b, 3, none⟩ = some (.slice A n.kids.length c) := cell_of_heap' hh
  have hst : TrStep base T w (w.setCell ⟨b, 2, none⟩ (.pointer T)) := TrStep.set T h1 (by decide) hh rfl
  have rk1 := rk.step hst (by decide) (PN.step hst ⟨T, rfl⟩ d)
  have hz0 := ZL.zero (TrStep.refl base T (w.setCell ⟨b, 2, none⟩ (.pointer T))) rk1
  have hpost : ∀ wn, ZL (w.setCell ⟨b, 2, none⟩ (.pointer T)) wn base S T d 41 ifc (.slice A n.kids.length c) n.kids n.kids.length → ZzPost w base T S (d + 1) b n (.returned (.tuple #[])) wn :=
    fun wn hz => ⟨rfl, hst.trans hz.1, PN.close h1 h2 (by decide) hh hz.1 (.list h (hz.done rfl))⟩
  rw [show ifc n b = .iface 106 (.pointer (some ⟨b, 0, none⟩)) by unfold ifc; rw [h]; rfl]
  generalize n.kids = kids at *
  have HP := Lib.hid hpost
  have HZ0 := Lib.hid hz0
  have IH := Lib.hid ih
  have SKk := Lib.hid sk
  clear hpost hst hh rk rk1 hz0 ih sk
  generalize hm : kids.length = m at *
  have M := Lib.hid hm
  clear hm
  go_enter Tryz.func29, Tryz.ntmps29
  go_wp2_with fail
  go_loopw [159] (fun i wr => ∃ k : Nat, k ≤ m ∧ i = .int .i64 k ∧ ZL (w.setCell ⟨b, 2, none⟩ (.pointer T)) wr base S T d 41 ifc (.slice A m c) kids k) (fun i _ => m - (intOf i).toNat)
  case atStart => exact ⟨0, Nat.zero_le _, rfl, HZ0.out⟩
  case round =>
    have ih' := IH.out
    obtain ⟨k, hk, rfl, hz⟩ := hrel
    by_cases hltk : k < m
    · have hlt' : k < kids.length := by rw [M.out]; exact hltk
      have ZK := Lib.hid hz
      rw [← M.out] at hz
      obtain ⟨g, b', p', hp, rfl, q0, hpn⟩ := hz.at hlt'
      have ZK' := Lib.hid hz
      have hcall := ih' b' p' wr hpn (by rw [← hp]; exact SKk.out _ (List.getElem_mem _))
      have Q0 := Lib.hid q0
      have P0 := Lib.hid hp
      clear ih'
      unfold ifc at q0 hcall
      generalize ptrT p'.kind = K at q0 hcall
      clear hz hpn hp
      have HC := Lib.hid hcall
      clear hcall
      go_wp2_with (go_at_call 29; refine Calls.mono HC.out ?_; rintro e w2 ⟨rfl, hst2, hp2⟩; have ST2 := Lib.hid hst2; have PN2 := Lib.hid hp2; clear hst2 hp2)
      go_roundw
      case rel =>
        have hx2 := ZK'.out.succ hlt' P0.out (by decide) ifc_inj ST2.out Q0.out PN2.out
        rw [M.out] at hx2
        first | exact ⟨k + 1, by omega, by go_num, hx2⟩ | ((repeat apply Exists.intro); exact ⟨⟨k + 1, by omega, by go_num, hx2⟩, rfl⟩)
      case measure => simp [intOf]; omega
    · have hk' : k = m := by omega
      subst hk'
      clear ih'
      go_wp2
      all_goals (first | go_end0 | refine bodyPost_ret (results_none rfl _ _ _) rfl ?_)
      all_goals exact HP.out _ hz

set_option maxHeartbeats 1000000 in
set_option maxRecDepth 100000 in
theorem zz_pipe {base b d : Nat} {T p : Option Addr} {S : Nat → Prop} {n : Nd} {dv kv : Value} {w : World} (ih : ZzAt base T S d) (h : n.kind = 13) (hd : ∀ p ∈ n.decl, p.kind = 17) (hk : ∀ p ∈ n.kids, p.kind = 5) (rd : RowP w S 83 ptrf (PN w base S TrPtr d) dv n.decl) (rk : RowP w S 103 ptrf (PN w base S TrPtr d) kv n.kids) (hlend : n.decl.length ≤ 1048576) (hlen : n.kids.length ≤ 1048576) (sk : ∀ p ∈ n.kids, Sm d p) (sd : ∀ p ∈ n.decl, Sm d p)
    (h1 : base ≤ b) (h2 : S b) (hh : w.heap[b]? = some (.cells #[.int .i64 14, .int .i64 0, .pointer p, .int .i64 0, .bool n.assign, dv, kv] 138 (0, 0))) :
    Calls Tryz.prog 29 #[ifc n b, .pointer T] w (ZzPost w base T S (d + 1) b n) := by
  obtain ⟨A, c, rfl⟩ := rd.form
  obtain ⟨A', c', rfl⟩ := rk.form
  have g1 : w.cell? ⟨b, 2, none⟩ = some (.pointer p) := cell_of_heap' hh
  have g2 := fr_at hh 2
  have g3 : w.cell? ⟨b, 5, none⟩ = some (.slice A n.decl.length c) := cell_of_heap' hh
  have hst : TrStep base T w (w.setCell ⟨b, 2, none⟩ (.pointer T)) := TrStep.set T h1 (by decide) hh rfl
  have rd1 := rd.step hst (by decide) (PN.step hst ⟨T, rfl⟩ d)
  have rk1 := rk.step hst (by decide) (PN.step hst ⟨T, rfl⟩ d)
  have hz0 := ZL.zero (TrStep.refl base T (w.setCell ⟨b, 2, none⟩ (.pointer T))) rd1
  have hown : ∀ wn, TrStep base T (w.setCell ⟨b, 2, none⟩ (.pointer T)) wn → wn.cell? ⟨b, 6, none⟩ = some (.slice A' n.kids.length c') := fun wn hs => cell_of_heap' (hs.own (i := 2) (by decide) (setCell_heap _ hh) rfl)
  have hz1 : ∀ wn, TrStep base T (w.setCell ⟨b, 2, none⟩ (.pointer T)) wn → ZL wn wn base S T d 103 ptrf (.slice A' n.kids.length c') n.kids 0 := fun wn hs => ZL.zero (TrStep.refl base T wn) (rk1.step hs (by decide) (PN.step hs ⟨T, rfl⟩ d))
  have hpost : ∀ wo wn, ZL (w.setCell ⟨b, 2, none⟩ (.pointer T)) wo base S T d 83 ptrf (.slice A n.decl.length c) n.decl n.decl.length → ZL wo wn base S T d 103 ptrf (.slice A' n.kids.length c') n.kids n.kids.length → ZzPost w base T S (d + 1) b n (.returned (.tuple #[])) wn :=
    fun wo wn hz hy => ⟨rfl, (hst.trans hz.1).trans hy.1, PN.close h1 h2 (by decide) hh (hz.1.trans hy.1) (.pipe h hd hk ((hz.done rfl).step hy.1 (by decide) (PN.step hy.1 (tr := TrIs T) rfl d)) (hy.done rfl))⟩
  rw [show ifc n b = .iface 90 (.pointer (some ⟨b, 0, none⟩)) by unfold ifc; rw [h]; rfl]
  generalize n.kids = kids at *
  generalize n.decl = decl at *
  have HP := Lib.hid hpost
  have HZ0 := Lib.hid hz0
  have HZ1 := Lib.hid hz1
  have HO := Lib.hid hown
  have HD := Lib.hid hd
  have HK := Lib.hid hk
  have IH := Lib.hid ih
  have SKk := Lib.hid sd
  have SKj := Lib.hid sk
  clear hpost hst hh rk rk1 rd rd1 hz0 hz1 hown hd hk ih sk sd
  generalize hm : kids.length = m at *
  have M := Lib.hid hm
  generalize hmd : decl.length = md at *
  have MD := Lib.hid hmd
  clear hm hmd
  go_enter Tryz.func29, Tryz.ntmps29
  go_wp2_with fail
  go_loopw [193] (fun i wr => ∃ k : Nat, k ≤ md ∧ i = .int .i64 k ∧ ZL (w.setCell ⟨b, 2, none⟩ (.pointer T)) wr base S T d 83 ptrf (.slice A md c) decl k) (fun i _ => md - (intOf i).toNat)
  case atStart => exact ⟨0, Nat.zero_le _, rfl, HZ0.out⟩
  case round =>
    have ih' := IH.out
    obtain ⟨k, hk, rfl, hz⟩ := hrel
    by_cases hltk : k < md
    · have hlt' : k < decl.length := by rw [MD.out]; exact hltk
      have ZK := Lib.hid hz
      rw [← MD.out] at hz
      obtain ⟨g, b', p', hp, rfl, q0, hpn⟩ := hz.at hlt'
      have ZK' := Lib.hid hz
      have hcall := ih' b' p' wr hpn (by rw [← hp]; exact SKk.out _ (List.getElem_mem _))
      have Q0 := Lib.hid q0
      have P0 := Lib.hid hp
      rw [show ifc p' b' = .iface 83 (.pointer (some ⟨b', 0, none⟩)) by unfold ifc; rw [show p'.kind = 17 by rw [← hp]; exact HD.out _ (List.getElem_mem _)]; rfl] at hcall
      unfold ptrf at q0
      clear ih'
      clear hz hpn hp
      have HC := Lib.hid hcall
      clear hcall
      go_wp2_with (go_at_call 29; refine Calls.mono HC.out ?_; rintro e w2 ⟨rfl, hst2, hp2⟩; have ST2 := Lib.hid hst2; have PN2 := Lib.hid hp2; clear hst2 hp2)
      go_roundw
      case rel =>
        have hx2 := ZK'.out.succ hlt' P0.out (by decide) ptrf_inj ST2.out Q0.out PN2.out
        rw [MD.out] at hx2
        first | exact ⟨k + 1, by omega, by go_num, hx2⟩ | ((repeat apply Exists.intro); exact ⟨⟨k + 1, by omega, by go_num, hx2⟩, rfl⟩)
      case measure => simp [intOf]; omega
    · have hk' : k = md := by omega
      subst hk'
      clear ih'
      have HZ := Lib.hid hz
      have g5 := HO.out wr hz.1
      have hz1 := HZ1.out wr hz.1
      clear hz
      obtain ⟨wo, rfl⟩ : ∃ wo : World, wo = wr := ⟨_, rfl⟩
      have HY0 := Lib.hid hz1
      clear hz1
      go_wp2_with fail
      go_loopw [207] (fun i wr => ∃ j : Nat, j ≤ m ∧ i = .int .i64 j ∧ ZL wo wr base S T d 103 ptrf (.slice A' m c') kids j) (fun i _ => m - (intOf i).toNat)
      case atStart => exact ⟨0, Nat.zero_le _, rfl, HY0.out⟩
      case round =>
        have ih' := IH.out
        obtain ⟨j, hj, rfl, hz⟩ := hrel
        by_cases hltj : j < m
        · have hlt' : j < kids.length := by rw [M.out]; exact hltj
          have ZK := Lib.hid hz
          rw [← M.out] at hz
          obtain ⟨g, b', p', hp, rfl, q0, hpn⟩ := hz.at hlt'
          have ZK' := Lib.hid hz
          have hcall := ih' b' p' wr hpn (by rw [← hp]; exact SKj.out _ (List.getElem_mem _))
          have Q0 := Lib.hid q0
          have P0 := Lib.hid hp
          rw [show ifc p' b' = .iface 103 (.pointer (some ⟨b', 0, none⟩)) by unfold ifc; rw [show p'.kind = 5 by rw [← hp]; exact HK.out _ (List.getElem_mem _)]; rfl] at hcall
          unfold ptrf at q0
          clear ih'
          clear hz hpn hp
          have HC := Lib.hid hcall
          clear hcall
          go_wp2_with (go_at_call 29; refine Calls.mono HC.out ?_; rintro e w2 ⟨rfl, hst2, hp2⟩; have ST2 := Lib.hid hst2; have PN2 := Lib.hid hp2; clear hst2 hp2)
          go_roundw
          case rel =>
            have hx2 := ZK'.out.succ hlt' P0.out (by decide) ptrf_inj ST2.out Q0.out PN2.out
            rw [M.out] at hx2
            first | exact ⟨j + 1, by omega, by go_num, hx2⟩ | ((repeat apply Exists.intro); exact ⟨⟨j + 1, by omega, by go_num, hx2⟩, rfl⟩)
          case measure => simp [intOf]; omega
        · have hk' : j = m := by omega
          subst hk'
          clear ih'
          go_wp2
          all_goals (first | go_end0 | refine bodyPost_ret (results_none rfl _ _ _) rfl ?_)
          all_goals exact HP.out _ _ HZ.out hz

end Go.Proofs.YtiogfkpclkkoaaaGreat
