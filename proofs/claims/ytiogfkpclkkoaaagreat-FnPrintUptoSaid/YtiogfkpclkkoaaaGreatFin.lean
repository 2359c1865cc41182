/-
  laws.FnPrint: WHATEVER THE NODE, if what is read of it is of bulk at most 1048576: the call returns true (a well-shaped node whose templates have simple names is printed by the package as the reference prints it), and the node reads behind the call as it read before.
  Conditions: those of the given row: loops, recursion, calls through an interface are let in; nothing is asked of the schedule.
-/
import Derived.Test.YtiogfkpclkkoaaaGreatFnP
import Derived.Test.YtiogfkpclkkoaaaGreatFrame
import Derived.Test.YtiogfkpclkkoaaaGreatRows
import Derived.ProofKit
import Derived.OpenShut
import Derived.JoinedCond
set_option linter.unusedVariables false
set_option linter.unusedSimpArgs false
namespace Go.Proofs.YtiogfkpclkkoaaaGreat
open Go.RowKit Go.ChangeShapes Go.WideShapes Go.ChangeAt

theorem own : ownKnob Tryz.prog.godebug = none := by kernel_rfl

set_option maxRecDepth 100000 in
theorem contract (H : Type) (enc : TypeId × Value → H) (W : World) (base : Nat) (args : Array Value) (ds gs : List (DataW H)) (before : List MemPlace)
    (hval : ∀ (j : Nat) t v, Tryz.f3.params[j]? = some t → args[j]? = some v → Value.okWide Tryz.prog W .any base t v)
    (hW : DataW.Whole enc Tryz.prog Tryz.f3.params.toList Rows.fnPrintSpec.vars false W args.toList ds gs before) (hk : Rows.uptoSmall H (ds ++ gs) = true) :
    Calls Tryz.prog 3 args W fun e W' => ∃ v, e = .returned v ∧ Rows.fnPrintSpec.post enc Tryz.prog Tryz.f3 false true false false W args v W' := by
  have hW' := hW
  have hlt : ∀ p ∈ before, p.block < W.heap.size := fun p hp => hW.lt p hp
  obtain ⟨p, q, hA0, hV, rfl, hfz, hnd⟩ := hW
  have hA : DataW.TrodAll enc Tryz.prog W 0 (fun _ => true) true Tryz.f3.params.toList args.toList ds p := hA0
  rw [Tryz.params3] at hA hval
  obtain ⟨v0, vs0, d0, ds0, p0, q0, hargs, rfl, rfl, h0, r0⟩ := trodAll_cons hA
  obtain ⟨rfl, rfl, rfl⟩ := trodAll_nil r0
  obtain rfl : args = #[v0] := by cases args; simp_all
  obtain ⟨rfl, rfl⟩ := trodVars_none hV
  simp only [List.append_nil] at hW' hk hlt
  obtain ⟨fuel, hf⟩ := h0
  obtain ⟨d, n, hsn, hwt⟩ := read_node (fuel + 1) fuel _ _ (by omega) hf
  have hb : Rows.uptoBulkAll [d0] ≤ 1048576 := of_decide_eq_true hk
  simp only [Rows.uptoBulkAll] at hb
  have hs : Sm d n := Nat.le_trans hwt (by simpa using hb)
  obtain ⟨A1, c1, A2, c2, A3, c3, A4, c4, hcs⟩ := hsn.form
  have hv0 : v0 = .agg #[.int .i64 n.kind, .string n.text, .string n.value, .slice A1 n.names.length c1, .bool n.tru, .bool n.assign, .slice A2 n.decl.length c2, .slice A3 n.kids.length c3, .slice A4 n.els.length c4, .bool n.hasElse, .int .i64 n.num, .bool n.exact] := by
    cases v0 <;> simp [Value.cells] at hcs
    rename_i cs
    rw [← hcs]
  rw [hcs] at hsn
  subst hv0
  cases d with
  | zero => exact hsn.elim
  | succ d =>
    refine (fnPrint_walk d n n.kind W A1 A2 A3 A4 _ _ _ _ c1 c2 c3 c4 rfl hsn hs).mono fun e W' ⟨he, hg⟩ => ?_
    subst he
    exact ⟨_, rfl, post_of_below (pv := []) hW' (fun _ _ _ => trodAll_cons_mk (shut_bool Tryz.underlying4 _) trodAll_mk0) (fun sp hsp => trodAll_below hg (DataW.TrodAll.respare kids full (by rw [Tryz.params3]; decide) hA0 (fun p hp => hsp p (by simpa using hp))) (fun p hp => hlt p (by simpa using hp))) (fun _ _ => rfl) (by simp)
      hg (ok_one (by kernel_rfl) rfl (okWide_bool_mk Tryz.underlying4 _))⟩

set_option maxRecDepth 100000 in
theorem lifted (os : Os) (started : os.Started) (H : Type) (enc : TypeId × Value → H) (F : Stop.Interp) :
    ReturnsInHanded {} Tryz.checked os 3 .any ((Rows.OpenSpec.upto Rows.fnPrintSpec).pre6 enc Tryz.prog Tryz.f3 Rows.fnPrintUptoRow.domain false) (((Rows.OpenSpec.upto Rows.fnPrintSpec).at F).post enc Tryz.prog Tryz.f3 false true false false) := by
  refine returnsInHanded_of_cond (C := Tryz.checked) (s := Rows.OpenSpec.upto Rows.fnPrintSpec) (k := Rows.uptoSmall) rfl own started (by kernel_rfl) Tryz.func3
    (OpenSpec.witness (enc := enc) (C := Tryz.checked) (s := Rows.OpenSpec.upto Rows.fnPrintSpec) (k := Rows.uptoSmall) rfl false ⟨#[], #[.agg #[.int .i64 0, .string ⟨#[]⟩, .string ⟨#[]⟩, .slice none 0 0, .bool false, .bool false, .slice none 0 0, .slice none 0 0, .slice none 0 0, .bool false, .int .i64 0, .bool false]], []⟩ 8 (by kernel_rfl) (by kernel_rfl) (by kernel_rfl)
      (x := ([.agg [.lit (.int .i64 0), .lit (.string []), .lit (.string []), .nil, .lit (.bool false), .lit (.bool false), .nil, .nil, .nil, .lit (.bool false), .lit (.int .i64 0), .lit (.bool false)]], [], [])) (by kernel_rfl) rfl (by kernel_rfl)) ?_
  intro W base args ds gs before hval hW _ hk _
  exact contract H enc W base args ds gs before hval hW hk

theorem over : Rows.fnPrintUptoRow.holds Tryz.pinned (Rows.OpenSpec.upto Rows.fnPrintSpec) :=
  OpenClaim.holds_of_cond 3 Tryz.f3 rfl rfl rfl rfl rfl rfl rfl ⟨rfl, rfl, rfl, rfl, rfl⟩ rfl rfl rfl rfl rfl (by kernel_rfl) Tryz.func3 (by kernel_rfl)
    (of_decide_eq_true (by kernel_rfl)) (by unfold Func.isWrapper; first | (rw [if_pos (by decide +kernel)]; kernel_rfl) | (rw [if_neg (by decide +kernel)]; exact ⟨rfl, rfl⟩))
    (fun os started H enc _ F => lifted os started H enc F)

theorem fnPrint_upto : Rows.FnPrintUptoSaid := over

#print axioms fnPrint_upto
end Go.Proofs.YtiogfkpclkkoaaaGreat
