/-
  The store of a whole node of the thin package (17 cells) into the block that was made last, as one law.
-/
import Derived.Test.YtiogfkpclkkoaaaGreatGivens
import Derived.Deep.WholeRow
set_option linter.unusedVariables false
set_option linter.unusedSimpArgs false
namespace Go.Proofs.YtiogfkpclkkoaaaGreat
open Go.RowKit

def StN (x y : Value) : Sem Unit := Instr.storeAt 33 x y
theorem stN (x y : Value) : Instr.storeAt 33 x y = StN x y := rfl
theorem run_stN (w : World) (k0 k14 k15 k16 : IntKind) (n0 n14 n15 n16 : Int) (s1 s2 : ByteArray) (a3 a6 a7 a8 : Option Addr) (l3 d3 l6 d6 l7 d7 l8 d8 : Nat) (b4 b5 b9 b10 b11 b12 b13 : Bool) :
    (StN (.pointer (some ⟨w.heap.size, 0, none⟩)) (.agg #[.int k0 n0, .string s1, .string s2, .slice a3 l3 d3, .bool b4, .bool b5, .slice a6 l6 d6, .slice a7 l7 d7, .slice a8 l8 d8, .bool b9, .bool b10, .bool b11, .bool b12, .bool b13, .int k14 n14, .int k15 n15, .int k16 n16])).run Tryz.prog
      (w.alloc (.cells #[.int .i64 0, .string ⟨#[]⟩, .string ⟨#[]⟩, .slice none 0 0, .bool false, .bool false, .slice none 0 0, .slice none 0 0, .slice none 0 0, .bool false, .bool false, .bool false, .bool false, .bool false, .int .i64 0, .int .u64 0, .int .u64 0] 33))
      = .ok () (w.alloc (.cells #[.int k0 n0, .string s1, .string s2, .slice a3 l3 d3, .bool b4, .bool b5, .slice a6 l6 d6, .slice a7 l7 d7, .slice a8 l8 d8, .bool b9, .bool b10, .bool b11, .bool b12, .bool b13, .int k14 n14, .int k15 n15, .int k16 n16] 33)) := by
  unfold StN
  exact run_storeAt_new w 33 _ _ (by kernel_rfl) rfl (by simp [Value.oneCell'])

def LdN (x : Value) : Sem Value := Instr.loadAt 33 x
theorem ldN (x : Value) : Instr.loadAt 33 x = LdN x := rfl

theorem info_node : (Tryz.prog.info? 33).map (·.size) = some 17 := by kernel_rfl
theorem und_node : (match Tryz.prog.underlying 33 with | some (.struct _) => true | _ => false) = true := by kernel_rfl

theorem run_ldN (w : World) (b o : Nat) (cs : List Value) (hl : cs.length = 17) (h : ∀ j, (hj : j < cs.length) → w.cell? ⟨b, o + j, none⟩ = some cs[j]) :
    (LdN (.pointer (some ⟨b, o, none⟩))).run Tryz.prog w = .ok (.agg cs.toArray) w := by
  have hld : (loadCells ⟨b, o, none⟩ cs.length).run Tryz.prog w = .ok cs.toArray w :=
    run_loadCells_list (P := Tryz.prog) w ⟨b, o, none⟩ cs (fun j v hv => by
      have hadd : (⟨b, o, none⟩ : Addr).add j = ⟨b, o + j, none⟩ := by unfold Addr.add; split <;> simp_all
      obtain ⟨hj, rfl⟩ := List.getElem?_eq_some_iff.1 hv
      rw [hadd, h j hj])
  cases hq : Tryz.prog.info? 33 with
  | none => have := info_node; simp [hq] at this
  | some i =>
    have hs : i.size = 17 := by have := info_node; simpa [hq] using this
    have hu := und_node
    cases hp : Tryz.prog.underlying 33 with
    | none => rw [hp] at hu; cases hu
    | some d =>
      rw [hp] at hu
      have hagg : (isAgg 33).run Tryz.prog w = .ok true w := by
        unfold isAgg
        rw [Sem.run_bind, run_underlying hp w]
        cases d <;> simp_all
      unfold LdN
      rw [hl] at hld
      simp [Instr.loadAt, Instr.sureAddr, loadVar, Sem.run_bind, hagg, sizeOf, typeInfo, hq, hs, hld]

/-- The element of a row of nodes that a round reads: its load as one equation. -/
theorem IN.ld {w : World} {S : Nat → Prop} {d : Nat} {A : Option Addr} {cap : Nat} {l : List Nd} (h : Row w S 17 (IN w S d) (.slice A l.length cap) l) {k : Nat} (hk : k < l.length) :
    ∃ p b o A1 d1 A2 d2 A3 d3 A4 d4, l[k] = p ∧ A = some ⟨b, o, none⟩ ∧ S b ∧ b < w.heap.size ∧ IN w S d [.int .i64 p.kind, .string p.text, .string p.value, .slice A1 p.names.length d1, .bool p.tru, .bool p.assign, .slice A2 p.decl.length d2, .slice A3 p.kids.length d3, .slice A4 p.els.length d4, .bool p.hasElse, .bool false, .bool false, .bool false, .bool false, .int .i64 0, .int .u64 0, .int .u64 0] p ∧
      w.cell? ⟨b, o + k * 17, none⟩ = some (.int .i64 p.kind) ∧
      (LdN (.pointer (some ⟨b, o + k * 17, none⟩))).run Tryz.prog w = .ok (.agg #[.int .i64 p.kind, .string p.text, .string p.value, .slice A1 p.names.length d1, .bool p.tru, .bool p.assign, .slice A2 p.decl.length d2, .slice A3 p.kids.length d3, .slice A4 p.els.length d4, .bool p.hasElse, .bool false, .bool false, .bool false, .bool false, .int .i64 0, .int .u64 0, .int .u64 0]) w := by
  obtain ⟨A', cap', hv, h⟩ := h
  injection hv with hA _ _
  subst hA
  obtain ⟨b, o, rfl, hb, hlt, h⟩ := h (by omega)
  obtain ⟨cs, hR, hc⟩ := h k hk
  obtain ⟨A1, d1, A2, d2, A3, d3, A4, d4, rfl⟩ := hR.form
  exact ⟨l[k], b, o, A1, d1, A2, d2, A3, d3, A4, d4, rfl, rfl, hb, hlt, hR, hc 0 (by simp), run_ldN w b (o + k * 17) _ rfl hc⟩

theorem run_ldN_new (w : World) (c0 c1 c2 c3 c4 c5 c6 c7 c8 c9 c10 c11 c12 c13 c14 c15 c16 : Value) (T : TypeId) :
    (LdN (.pointer (some ⟨w.heap.size, 0, none⟩))).run Tryz.prog (w.alloc (.cells #[c0, c1, c2, c3, c4, c5, c6, c7, c8, c9, c10, c11, c12, c13, c14, c15, c16] T))
      = .ok (.agg #[c0, c1, c2, c3, c4, c5, c6, c7, c8, c9, c10, c11, c12, c13, c14, c15, c16]) (w.alloc (.cells #[c0, c1, c2, c3, c4, c5, c6, c7, c8, c9, c10, c11, c12, c13, c14, c15, c16] T)) :=
  run_ldN _ w.heap.size 0 [c0, c1, c2, c3, c4, c5, c6, c7, c8, c9, c10, c11, c12, c13, c14, c15, c16] rfl fun j hj => by
    rw [Nat.zero_add, cell_of_row _ _ j _ T (0, 0) (heap_alloc_last w _)]
    simp

end Go.Proofs.YtiogfkpclkkoaaaGreat
