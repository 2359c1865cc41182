/-
  laws.FnEmpty: the contract, for every node that reads within the bound.
-/
import Derived.Test.YtpoedkaggfojgaaGreatDoorFnE
import Derived.Test.YtpoedkaggfojgaaGreatDoorFrame
import Derived.Deep.DeepHandedRow
import Derived.Lib.LaidTab
import Derived.LaidSub
set_option linter.unusedVariables false
set_option linter.unusedSimpArgs false
namespace Go.Proofs.YtpoedkaggfojgaaGreatDoor
open Go.RowKit Go.ChangeShapes Go.WideShapes Go.ChangeAt

theorem gTab : Tryz.prog.globalNamed "bytes.asciiSpace" = some 1 := by kernel_rfl
theorem gTabType : (Tryz.prog.globals[1]?).map (·.type) = some 129 := by kernel_rfl
theorem cellsTab : Tryz.prog.cellsOf 129 = 256 := by kernel_rfl
theorem cellsU8 : Tryz.prog.cellsOf 5 = 1 := by kernel_rfl
theorem undTab : Tryz.prog.underlying 129 = some (.array 256 5) := by kernel_rfl
theorem undU8 : Tryz.prog.underlying 5 = some (.int .u8) := by kernel_rfl

def spaceZs : List Int := (List.range 256).map fun i => if wsN i then 1 else 0
theorem space_datum : Rows.laid_bytes_asciiSpace (H := Unit) = Lib.tabData .u8 spaceZs := by kernel_rfl

/-- WHAT THE ROW's LIST GIVES: the table of white space. -/
theorem tab_of_laid {W : World} (h : laidMetH Tryz.prog Rows.fnEmptyUptoRow.laid W) : Tab W := by
  have h1 := h.filter (fun x => x.1 == "bytes.asciiSpace")
  rw [show Rows.fnEmptyUptoRow.laid.filter (fun x => x.1 == "bytes.asciiSpace") = [("bytes.asciiSpace", Rows.laid_bytes_asciiSpace)] by rfl, space_datum] at h1
  have h2 : Lib.TabIs Tryz.prog W "bytes.asciiSpace" .u8 spaceZs := Lib.tabIs_of_head (rest := []) gTab gTabType undTab undU8 cellsU8 cellsTab h1
  intro i hi
  have h3 := h2.cell gTab i (by simp [spaceZs]; omega)
  rw [h3]
  simp [spaceZs, List.getD, List.getElem?_map, List.getElem?_range, show i < 256 by omega]

set_option maxRecDepth 100000 in
theorem contract (H : Type) (enc : TypeId × Value → H) (W : World) (base : Nat) (args : Array Value) (ds gs : List (DataW H)) (before : List MemPlace)
    (hval : ∀ (j : Nat) t v, Tryz.f3.params[j]? = some t → args[j]? = some v → Value.okWide Tryz.prog W .any base t v)
    (hW : DataW.Whole enc Tryz.prog Tryz.f3.params.toList Rows.fnEmptySpec.vars false W args.toList ds gs before) (hk : Rows.uptoSmall H (ds ++ gs) = true) (hL : laidMetH Tryz.prog Rows.fnEmptyUptoRow.laid W) :
    Calls Tryz.prog 3 args W fun e W' => ∃ v, e = .returned v ∧ Rows.fnEmptySpec.post enc Tryz.prog Tryz.f3 false true false false W args v W' := by
  have hW' := hW
  have hlt : ∀ p ∈ before, p.block < W.heap.size := fun p hp => hW.lt p hp
  obtain ⟨p, q, hA0, hV, rfl, hfz, hnd⟩ := hW
  have hA : DataW.TrodAll enc Tryz.prog W 0 (fun _ => true) true Tryz.f3.params.toList args.toList ds p := hA0
  rw [Tryz.params3] at hA hval
  obtain ⟨v0, vs0, d0, ds0, p0, q0, hargs, rfl, rfl, h0, r0⟩ := trodAll_cons hA
  obtain ⟨rfl, rfl, rfl⟩ := trodAll_nil r0
  obtain rfl : args = #[v0] := by cases args; simp_all
  obtain ⟨rfl, rfl⟩ := trodVars_none hV
  simp only [List.append_nil] at hW' hk hlt
  obtain ⟨fuel, hf⟩ := h0
  obtain ⟨d, n, hsn, hwt⟩ := read_node (fuel + 1) fuel _ _ (by omega) hf
  have hb : Rows.uptoBulkAll [d0] ≤ 1048576 := of_decide_eq_true hk
  simp only [Rows.uptoBulkAll] at hb
  have hs : Sm d n := Nat.le_trans hwt (by simpa using hb)
  have ht := tab_of_laid hL
  obtain ⟨A1, c1, A2, c2, A3, c3, A4, c4, hcs⟩ := hsn.form
  have hv0 : v0 = .agg #[.int .i64 n.kind, .string n.text, .string n.value, .slice A1 n.names.length c1, .bool n.tru, .bool n.assign, .slice A2 n.decl.length c2, .slice A3 n.kids.length c3, .slice A4 n.els.length c4, .bool n.hasElse, .int .i64 n.num, .bool n.exact] := by
    cases v0 <;> simp [Value.cells] at hcs
    rename_i cs
    rw [← hcs]
  rw [hcs] at hsn
  subst hv0
  cases d with
  | zero => exact hsn.elim
  | succ d =>
    refine (fnEmpty_walk d n W A1 A2 A3 A4 _ _ _ _ c1 c2 c3 c4 hsn hs ht).mono fun e W' ⟨he, hg⟩ => ?_
    subst he
    exact ⟨_, rfl, post_of_below (pv := []) hW' (fun _ _ _ => trodAll_cons_mk (shut_bool Tryz.underlying4 _) trodAll_mk0) (fun sp hsp => trodAll_below hg (DataW.TrodAll.respare kids full (by rw [Tryz.params3]; decide) hA0 (fun p hp => hsp p (by simpa using hp))) (fun p hp => hlt p (by simpa using hp))) (fun _ _ => rfl) (by simp)
      hg (ok_one (by kernel_rfl) rfl (okWide_bool_mk Tryz.underlying4 _))⟩

end Go.Proofs.YtpoedkaggfojgaaGreatDoor
