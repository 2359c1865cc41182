/-
  strings.Builder's copyCheck, WriteByte, WriteString, at this dump (copyCheck's text is not the shelf's: the loader refuses its way to the panic), in words of lists of bytes.
-/
import Derived.Test.YtiogfkpclkkoaaaGreatShelf
import Derived.WalkKit
import Derived.Lib.Hide
set_option linter.unusedVariables false
set_option linter.unusedSimpArgs false
namespace Go.Proofs.YtiogfkpclkkoaaaGreat
open Go.RowKit

theorem sizeSb : (Tryz.prog.info? 167).map (fun i => decide (i.size ≠ 0)) = some true := by kernel_rfl
theorem liesSb : liesAt Tryz.prog Tryz.prog.depth 167 (2 / Tryz.prog.cellsOf 167) 0 167 1 = true := by kernel_rfl
theorem infoByteSb : (Tryz.prog.info? 5).map (fun i => (i.zero, i.size, i.bytes)) = some (some (.int .u8 0), 1, 1) := by kernel_rfl

set_option maxHeartbeats 1000000 in
set_option maxRecDepth 100000 in
theorem copyCheck_used (b : Nat) (w : World) (h0 : w.cell? ⟨b, 0, none⟩ = some (.pointer (some ⟨b, 0, none⟩))) :
    Calls Tryz.prog 59 #[.pointer (some ⟨b, 0, none⟩)] w fun e w' => e = .returned (.tuple #[]) ∧ w' = w := by
  obtain ⟨j, hj, _⟩ := Option.map_eq_some_iff.1 sizeSb
  go_enter Tryz.func59, Tryz.ntmps59
  go_wp2
  rw [Lib.run_neq_ptr_same w _ Tryz.underlying165 hj]
  go_wp2
  go_end0
  exact ⟨rfl, rfl⟩

set_option maxHeartbeats 1000000 in
set_option maxRecDepth 100000 in
theorem copyCheck_fresh (b : Nat) (w : World) (h0 : w.cell? ⟨b, 0, none⟩ = some (.pointer none)) (hsh : w.shape? b = some (167, 2)) (hfz : w.frozen? ⟨b, 0, none⟩ = false) :
    Calls Tryz.prog 59 #[.pointer (some ⟨b, 0, none⟩)] w fun e w' => e = .returned (.tuple #[]) ∧ w' = w.setCell ⟨b, 0, none⟩ (.pointer (some ⟨b, 0, none⟩)) := by
  obtain ⟨j, hj, hjs⟩ := Option.map_eq_some_iff.1 sizeSb
  go_enter Tryz.func59, Tryz.ntmps59
  go_wp2
  rw [Lib.run_to_unsafe w ⟨b, 0, none⟩ Tryz.underlying165 Tryz.underlying172 hj (by simpa using hjs) hsh (Nat.zero_lt_succ 1)]
  simp only [Result.andThen]
  rw [Oper.upon_value]
  go_wp2
  rw [run_callFunc_extern Tryz.func60 (by kernel_rfl) (by kernel_rfl) (by kernel_rfl) (e := Extern.AbiNoEscape.same) (by kernel_rfl)]
  rw [Lib.run_noEscape]
  simp only [Result.andThen]
  rw [Oper.upon_value]
  go_wp2
  rw [Lib.run_from_unsafe w ⟨b, 0, none⟩ Tryz.underlying172 Tryz.underlying165 hj hsh liesSb]
  simp only [Result.andThen]
  rw [Oper.upon_value]
  go_wp2
  go_end0
  exact ⟨rfl, rfl⟩

/-- A builder in block b (the call's own: from B on) that holds the bytes l. -/
def SB (B b : Nat) (l : List UInt8) (w : World) : Prop := Lib.IsBuilderF 167 5 B b (Lib.byteCells l) w

theorem copyCheck_any (B b : Nat) (l : List UInt8) (w : World) (h : SB B b l w) :
    Calls Tryz.prog 59 #[.pointer (some ⟨b, 0, none⟩)] w fun e w' => e = .returned (.tuple #[]) ∧ Lib.BuilderAtF 167 5 B b (.pointer (some ⟨b, 0, none⟩)) (Lib.byteCells l) w' ∧ Below B w w' := by
  rcases h with h | h
  · refine (copyCheck_fresh b w h.cell0 h.shape h.frozen0).mono ?_
    rintro e w' ⟨rfl, rfl⟩
    exact ⟨rfl, h.used _, (Below.refl B w).setCell (p := ⟨b, 0, none⟩) h.1 _⟩
  · refine (copyCheck_used b w h.cell0).mono ?_
    rintro e w' ⟨rfl, rfl⟩
    exact ⟨rfl, h, Below.refl B _⟩

def SbPost (B b : Nat) (v : Value) (w : World) (l : List UInt8) (e : Ending) (w' : World) : Prop := e = .returned v ∧ SB B b l w' ∧ Below B w w'

set_option maxHeartbeats 2000000 in
set_option maxRecDepth 100000 in
theorem sb_byte (B b : Nat) (l : List UInt8) (c : UInt8) (w : World) (h : SB B b l w) (hlen : l.length + 1 ≤ 140737488355328) (hBw : B ≤ w.heap.size) :
    Calls Tryz.prog 74 #[.pointer (some ⟨b, 0, none⟩), .int .u8 c.toNat] w (SbPost B b .nilIface w (l ++ [c])) := by
  have hlen' : (Lib.byteCells l).length + 1 ≤ 140737488355328 := by rw [Lib.byteCells_length]; exact hlen
  obtain ⟨i0, hi, hz0, hz1, hz2⟩ := info_parts infoByteSb
  go_enter Tryz.func74, Tryz.ntmps74
  go_wp2_with (go_at_call 59; refine Calls.mono (copyCheck_any B b l _ h) ?_)
  rintro e w1 ⟨rfl, h1, hb1⟩
  clear h
  generalize hbs : Lib.byteCells l = bs at *
  have HBS := Lib.hid hbs
  clear hbs
  obtain ⟨hB, v, hbk, hown, hne⟩ := h1
  have c0 : w1.cell? ⟨b, 0, none⟩ = some (.pointer (some ⟨b, 0, none⟩)) := by rw [Lib.cell_of_heap hbk]; rfl
  have c1 : w1.cell? ⟨b, 1, none⟩ = some v := by rw [Lib.cell_of_heap hbk]; rfl
  go_wp2_with (at_builtin; refine wpList_append_ownF _ rfl _ _ 52 rfl B 5 i0 (.int .u8 0) 1 1 Tryz.underlying52 hi hz0 hz1 hz2 rfl (by decide) _ _ _ rfl (hown.alloc _) ⟨w1.heap.size, 0, none⟩ 1 1 [.int .u8 c.toNat] rfl rfl ?c1 ?c2 ?c3 ?c4 ?c5 ?_)
  case c1 =>
    intro j u hj
    match j, hj with
    | 0, hj => simp at hj; subst hj; simp [Addr.add]
  case c2 => intro u hu; simp at hu; subst hu; rfl
  case c3 => unfold maxLen; omega
  case c4 => omega
  case c5 => have := hb1.size; simp; omega
  intro v' w2 hown' hgrow _
  have hlt : b < w1.heap.size := by
    rcases Nat.lt_or_ge b w1.heap.size with h' | h'
    · exact h'
    · simp [Array.getElem?_eq_none h'] at hbk
  have hb2 : w2.heap[b]? = some (.cells #[.pointer (some ⟨b, 0, none⟩), v] 167 (0, 0)) := by
    rw [hgrow.block b (by simp; omega) (fun e => hne e.symm), Lib.alloc_old w1 _ b hlt]
    exact hbk
  have d0 : w2.cell? ⟨b, 0, none⟩ = some (.pointer (some ⟨b, 0, none⟩)) := by rw [Lib.cell_of_heap hb2]; rfl
  have d1 : w2.cell? ⟨b, 1, none⟩ = some v := by rw [Lib.cell_of_heap hb2]; rfl
  have f1 : w2.frozen? ⟨b, 1, none⟩ = false := Lib.frozen_of_heap hb2 1
  obtain ⟨g, cap, rfl⟩ : ∃ g cap, v' = .slice (some ⟨g, 0, none⟩) (bs.length + 1) cap := by
    rcases hown'.2 with ⟨_, h0⟩ | ⟨g, cap, cur, fz, hv, _⟩
    · omega
    · exact ⟨g, cap, hv⟩
  go_wp2
  go_ret
  refine ⟨rfl, Or.inr ?_, ?_⟩
  · rw [Lib.byteCells_append, HBS.out]
    exact Lib.BuilderAtF.put (T := 167) (e := 5) hB hb2 (bs' := bs ++ [.int .u8 c.toNat]) (by simpa using hown') (by decide)
  · exact ((hb1.alloc (by have := hb1.size; omega) _).grown hgrow (by have := hb1.size; simp; omega) (fun k hk => (hown.lt k hk).1)).setCell (p := ⟨b, 1, none⟩) hB _

set_option maxHeartbeats 2000000 in
set_option maxRecDepth 100000 in
theorem sb_string (B b : Nat) (l : List UInt8) (s : ByteArray) (w : World) (h : SB B b l w) (hlen : l.length + s.size ≤ 140737488355328) (hBw : B ≤ w.heap.size) :
    Calls Tryz.prog 58 #[.pointer (some ⟨b, 0, none⟩), .string s] w (SbPost B b (.tuple #[.int .i64 s.size, .nilIface]) w (l ++ s.data.toList)) := by
  have hlen' : (Lib.byteCells l).length + s.size ≤ 140737488355328 := by rw [Lib.byteCells_length]; exact hlen
  obtain ⟨i0, hi, hz0, hz1, hz2⟩ := info_parts infoByteSb
  go_enter Tryz.func58, Tryz.ntmps58
  go_wp2_with (go_at_call 59; refine Calls.mono (copyCheck_any B b l _ h) ?_)
  rintro e w1 ⟨rfl, h1, hb1⟩
  clear h
  generalize hbs : Lib.byteCells l = bs at *
  have HBS := Lib.hid hbs
  clear hbs
  obtain ⟨hB, v, hbk, hown, hne⟩ := h1
  have c0 : w1.cell? ⟨b, 0, none⟩ = some (.pointer (some ⟨b, 0, none⟩)) := by rw [Lib.cell_of_heap hbk]; rfl
  have c1 : w1.cell? ⟨b, 1, none⟩ = some v := by rw [Lib.cell_of_heap hbk]; rfl
  go_wp2_with (at_builtin; refine Lib.wpList_append_own_stringF _ rfl _ _ 52 9 rfl B 5 i0 Tryz.underlying52 Tryz.underlying9 hi hz0 hz1 hz2 _ _ _ rfl hown s rfl ?c3 ?c4 ?c5 ?_)
  case c3 => unfold maxLen; omega
  case c4 => omega
  case c5 => have := hb1.size; omega
  intro v' w2 hown' hgrow _
  have hlt : b < w1.heap.size := by
    rcases Nat.lt_or_ge b w1.heap.size with h' | h'
    · exact h'
    · simp [Array.getElem?_eq_none h'] at hbk
  have hb2 : w2.heap[b]? = some (.cells #[.pointer (some ⟨b, 0, none⟩), v] 167 (0, 0)) := by
    rw [hgrow.block b hlt (fun e => hne e.symm)]
    exact hbk
  have d0 : w2.cell? ⟨b, 0, none⟩ = some (.pointer (some ⟨b, 0, none⟩)) := by rw [Lib.cell_of_heap hb2]; rfl
  have d1 : w2.cell? ⟨b, 1, none⟩ = some v := by rw [Lib.cell_of_heap hb2]; rfl
  have f1 : w2.frozen? ⟨b, 1, none⟩ = false := Lib.frozen_of_heap hb2 1
  obtain ⟨ao, n', cap, rfl⟩ : ∃ ao n' cap, v' = .slice ao n' cap := by
    rcases hown'.2 with ⟨hv, _⟩ | ⟨g, cap, cur, fz, hv, _⟩
    · exact ⟨_, _, _, hv⟩
    · exact ⟨_, _, _, hv⟩
  go_wp2
  go_ret2
  refine ⟨rfl, Or.inr ?_, ?_⟩
  · rw [Lib.byteCells_append, HBS.out]
    exact Lib.BuilderAtF.put (T := 167) (e := 5) hB hb2 (bs' := bs ++ Lib.strCells s) (by simpa [Lib.strCells_length] using hown') (by decide)
  · exact (hb1.grown hgrow (by have := hb1.size; omega) (fun k hk => (hown.lt k hk).1)).setCell (p := ⟨b, 1, none⟩) hB _

theorem sb_done (B b : Nat) (l : List UInt8) (w : World) (h : SB B b l w) (hBw : B ≤ w.heap.size) :
    Calls Tryz.prog 57 #[.pointer (some ⟨b, 0, none⟩)] w fun e w' => e = .returned (.string ⟨l.toArray⟩) ∧ Below B w w' :=
  (Tryz.Builder_String_any_k B b l w h hBw).mono fun _ _ ⟨he, _, hb, _⟩ => ⟨he, hb⟩

theorem sb_fresh (w : World) : SB w.heap.size w.heap.size [] (w.alloc (.cells #[.pointer none, .slice none 0 0] 167)) := Lib.IsBuilderF.of (Lib.fresh_isBuilder _ _ w)

end Go.Proofs.YtiogfkpclkkoaaaGreat
