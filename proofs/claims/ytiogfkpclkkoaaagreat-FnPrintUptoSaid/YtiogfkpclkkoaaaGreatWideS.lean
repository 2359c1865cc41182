/-
  The load and the store of a whole node of the reference (12 cells), each as one law.
-/
import Derived.Test.YtiogfkpclkkoaaaGreatGivens
import Derived.Deep.WholeRow
set_option linter.unusedVariables false
set_option linter.unusedSimpArgs false
namespace Go.Proofs.YtiogfkpclkkoaaaGreat
open Go.RowKit

def StS (x y : Value) : Sem Unit := Instr.storeAt 25 x y
theorem stS (x y : Value) : Instr.storeAt 25 x y = StS x y := rfl
theorem run_stS (w : World) (k0 k10 : IntKind) (n0 n10 : Int) (s1 s2 : ByteArray) (a3 a6 a7 a8 : Option Addr) (l3 d3 l6 d6 l7 d7 l8 d8 : Nat) (b4 b5 b9 b11 : Bool) :
    (StS (.pointer (some ⟨w.heap.size, 0, none⟩)) (.agg #[.int k0 n0, .string s1, .string s2, .slice a3 l3 d3, .bool b4, .bool b5, .slice a6 l6 d6, .slice a7 l7 d7, .slice a8 l8 d8, .bool b9, .int k10 n10, .bool b11])).run Tryz.prog
      (w.alloc (.cells #[.int .i64 0, .string ⟨#[]⟩, .string ⟨#[]⟩, .slice none 0 0, .bool false, .bool false, .slice none 0 0, .slice none 0 0, .slice none 0 0, .bool false, .int .i64 0, .bool false] 25))
      = .ok () (w.alloc (.cells #[.int k0 n0, .string s1, .string s2, .slice a3 l3 d3, .bool b4, .bool b5, .slice a6 l6 d6, .slice a7 l7 d7, .slice a8 l8 d8, .bool b9, .int k10 n10, .bool b11] 25)) := by
  unfold StS
  exact run_storeAt_new w 25 _ _ (by kernel_rfl) rfl (by simp [Value.oneCell'])

def LdS (x : Value) : Sem Value := Instr.loadAt 25 x
theorem ldS (x : Value) : Instr.loadAt 25 x = LdS x := rfl

theorem info_snode : (Tryz.prog.info? 25).map (·.size) = some 12 := by kernel_rfl
theorem und_snode : (match Tryz.prog.underlying 25 with | some (.struct _) => true | _ => false) = true := by kernel_rfl

theorem run_ldS (w : World) (b o : Nat) (cs : List Value) (hl : cs.length = 12) (h : ∀ j, (hj : j < cs.length) → w.cell? ⟨b, o + j, none⟩ = some cs[j]) :
    (LdS (.pointer (some ⟨b, o, none⟩))).run Tryz.prog w = .ok (.agg cs.toArray) w := by
  have hld : (loadCells ⟨b, o, none⟩ cs.length).run Tryz.prog w = .ok cs.toArray w :=
    run_loadCells_list (P := Tryz.prog) w ⟨b, o, none⟩ cs (fun j v hv => by
      have hadd : (⟨b, o, none⟩ : Addr).add j = ⟨b, o + j, none⟩ := by unfold Addr.add; split <;> simp_all
      obtain ⟨hj, rfl⟩ := List.getElem?_eq_some_iff.1 hv
      rw [hadd, h j hj])
  cases hq : Tryz.prog.info? 25 with
  | none => have := info_snode; simp [hq] at this
  | some i =>
    have hs : i.size = 12 := by have := info_snode; simpa [hq] using this
    have hu := und_snode
    cases hp : Tryz.prog.underlying 25 with
    | none => rw [hp] at hu; cases hu
    | some d =>
      rw [hp] at hu
      have hagg : (isAgg 25).run Tryz.prog w = .ok true w := by
        unfold isAgg
        rw [Sem.run_bind, run_underlying hp w]
        cases d <;> simp_all
      unfold LdS
      rw [hl] at hld
      simp [Instr.loadAt, Instr.sureAddr, loadVar, Sem.run_bind, hagg, sizeOf, typeInfo, hq, hs, hld]

/-- The element of a row of nodes that a round reads: its load as one equation. -/
theorem SN.ld {w : World} {S : Nat → Prop} {d : Nat} {A : Option Addr} {cap : Nat} {l : List Nd} (h : Row w S 12 (SN w S d) (.slice A l.length cap) l) {k : Nat} (hk : k < l.length) :
    ∃ p b o A1 d1 A2 d2 A3 d3 A4 d4, l[k] = p ∧ A = some ⟨b, o, none⟩ ∧ S b ∧ b < w.heap.size ∧ SN w S d [.int .i64 p.kind, .string p.text, .string p.value, .slice A1 p.names.length d1, .bool p.tru, .bool p.assign, .slice A2 p.decl.length d2, .slice A3 p.kids.length d3, .slice A4 p.els.length d4, .bool p.hasElse, .int .i64 p.num, .bool p.exact] p ∧
      w.cell? ⟨b, o + k * 12, none⟩ = some (.int .i64 p.kind) ∧
      (LdS (.pointer (some ⟨b, o + k * 12, none⟩))).run Tryz.prog w = .ok (.agg #[.int .i64 p.kind, .string p.text, .string p.value, .slice A1 p.names.length d1, .bool p.tru, .bool p.assign, .slice A2 p.decl.length d2, .slice A3 p.kids.length d3, .slice A4 p.els.length d4, .bool p.hasElse, .int .i64 p.num, .bool p.exact]) w := by
  obtain ⟨A', cap', hv, h⟩ := h
  injection hv with hA _ _
  subst hA
  obtain ⟨b, o, rfl, hb, hlt, h⟩ := h (by omega)
  obtain ⟨cs, hR, hc⟩ := h k hk
  obtain ⟨A1, d1, A2, d2, A3, d3, A4, d4, rfl⟩ := hR.form
  exact ⟨l[k], b, o, A1, d1, A2, d2, A3, d3, A4, d4, rfl, rfl, hb, hlt, hR, hc 0 (by simp), run_ldS w b (o + k * 12) _ rfl hc⟩

theorem run_ldS_new (w : World) (c0 c1 c2 c3 c4 c5 c6 c7 c8 c9 c10 c11 : Value) (T : TypeId) :
    (LdS (.pointer (some ⟨w.heap.size, 0, none⟩))).run Tryz.prog (w.alloc (.cells #[c0, c1, c2, c3, c4, c5, c6, c7, c8, c9, c10, c11] T))
      = .ok (.agg #[c0, c1, c2, c3, c4, c5, c6, c7, c8, c9, c10, c11]) (w.alloc (.cells #[c0, c1, c2, c3, c4, c5, c6, c7, c8, c9, c10, c11] T)) :=
  run_ldS _ w.heap.size 0 [c0, c1, c2, c3, c4, c5, c6, c7, c8, c9, c10, c11] rfl fun j hj => by
    rw [Nat.zero_add, cell_of_row _ _ j _ T (0, 0) (heap_alloc_last w _)]
    simp

end Go.Proofs.YtiogfkpclkkoaaaGreat
