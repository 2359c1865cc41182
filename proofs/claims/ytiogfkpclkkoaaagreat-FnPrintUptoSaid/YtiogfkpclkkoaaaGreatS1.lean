/-
  The walks of the laws' and the reference's small functions: what each call returns.
-/
import Derived.Test.YtiogfkpclkkoaaaGreatProg
import Derived.Test.YtiogfkpclkkoaaaGreatDefs
import Derived.Test.YtiogfkpclkkoaaaGreatNeat
import Derived.WalkKit
import Derived.WalkSpells
import Derived.WalkLawsBesides
import Derived.Lib.Hide
set_option linter.unusedVariables false
set_option linter.unusedSimpArgs false
namespace Go.Proofs.YtiogfkpclkkoaaaGreat
open Go.RowKit

set_option maxHeartbeats 400000 in
theorem branch_any (k : Int) (w : World) :
    Calls Tryz.prog 11 #[.int .i64 k] w fun e w' => e = .returned (.bool (branchK k)) ∧ w = w' := by
  by_cases h1 : k = 9
  · subst h1
    go_enter Tryz.func11, Tryz.ntmps11
    go_wp2
    go_ret
    exact ⟨rfl, rfl⟩
  by_cases h2 : k = 14
  · subst h2
    go_enter Tryz.func11, Tryz.ntmps11
    go_wp2
    go_ret
    exact ⟨rfl, rfl⟩
  go_enter Tryz.func11, Tryz.ntmps11
  go_wp2
  go_ret
  exact ⟨rfl, rfl⟩

set_option maxHeartbeats 400000 in
theorem operand_any (k : Int) (c1 c2 c3 c4 c5 c6 c7 c8 c9 c10 c11 : Value) (w : World) :
    Calls Tryz.prog 13 #[.agg #[.int .i64 k, c1, c2, c3, c4, c5, c6, c7, c8, c9, c10, c11]] w fun e w' => e = .returned (.bool (operandK k)) ∧ Below w.heap.size w w' := by
  go_enter Tryz.func13, Tryz.ntmps13
  go_wp2
  all_goals go_ret
  all_goals refine ⟨?_, (Below.refl _ _).alloc (Nat.le_refl _) _⟩
  all_goals first | rfl | (simp [operandK, *]; done)

set_option maxHeartbeats 400000 in
theorem element_any (k : Int) (w : World) :
    Calls Tryz.prog 14 #[.int .i64 k] w fun e w' => e = .returned (.bool (elementK k)) ∧ w = w' := by
  go_enter Tryz.func14, Tryz.ntmps14
  go_wp2
  all_goals go_ret
  all_goals refine ⟨?_, rfl⟩
  all_goals first | rfl | (simp [elementK, *]; done)

set_option maxHeartbeats 400000 in
theorem fits2_any (l : List ByteArray) (S : Nat → Prop) (A : Option Addr) (cap : Nat) (w : World) (h : Strs w S (.slice A l.length cap) l) (hl : l.length ≤ 1048576) (hs : ∀ s ∈ l, s.size ≤ 1048576) :
    Calls Tryz.prog 10 #[.slice A l.length cap] w fun e w' => e = .returned (.bool true) ∧ w = w' := by
  have H := Lib.hid h; clear h
  have HS := Lib.hid hs; clear hs
  generalize hm : l.length = m at hl
  have HM := Lib.hid hm; clear hm
  go_enter Tryz.func10, Tryz.ntmps10
  go_wp2
  go_loop [4, 10] (fun _ i => ∃ k : Nat, k ≤ m ∧ i = .int .i64 k) (fun _ i => m - (intOf i).toNat)
  case atStart => exact ⟨0, Nat.zero_le _, rfl⟩
  case round =>
    obtain ⟨k, hk, rfl⟩ := hrel
    by_cases hlt : k < m
    · obtain ⟨b, o, rfl, _, _, hc⟩ := H.out.at (k := k) (by rw [HM.out]; exact hlt)
      have hsz : (l[k]'(by rw [HM.out]; exact hlt)).size ≤ 1048576 := HS.out _ (List.getElem_mem _)
      generalize l[k]'(by rw [HM.out]; exact hlt) = s at hc hsz
      go_wp2
      go_round
      case rel => exact ⟨k + 1, by omega, by go_num⟩
      case measure => simp [intOf]; omega
    · go_wp2
      go_ret
      exact ⟨rfl, rfl⟩

set_option maxHeartbeats 400000 in
theorem fits3_any (d : Nat) (cs : List Value) (n : Nd) (S : Nat → Prop) (w : World) (h : SN w S (d + 1) cs n) (hs : Sm (d + 1) n) :
    Calls Tryz.prog 4 #[.agg cs.toArray] w fun e w' => e = .returned (.bool true) ∧ Below w.heap.size w w' := by
  obtain ⟨b1, b2, b3, hn⟩ := hs.parts h
  have hb : n.text.size ≤ 1048576 ∧ n.value.size ≤ 1048576 ∧ ∀ s ∈ n.names, s.size ≤ 1048576 := by
    simp only [Sm, wt] at hs
    refine ⟨by omega, by omega, fun s hm => ?_⟩
    have := sum_le_of_mem (fun s : ByteArray => s.size + 1) hm
    omega
  obtain ⟨nv, dv, kv, ev, rfl, h1, h2, h3, h4⟩ := h
  obtain ⟨A1, c1, rfl⟩ := h1.form
  obtain ⟨A2, c2, rfl⟩ := h2.form
  obtain ⟨A3, c3, rfl⟩ := h3.form
  obtain ⟨A4, c4, rfl⟩ := h4.form
  obtain ⟨x1, x2, x3⟩ := hb
  have y1 := b1.1
  have y2 := b2.1
  have y3 := b3.1
  have H1 := Lib.hid h1
  have HX := Lib.hid x3
  clear h1 h2 h3 h4 hs x3 b1 b2 b3
  generalize n.decl.length = m2 at *
  generalize n.kids.length = m3 at *
  generalize n.els.length = m4 at *
  show Calls _ _ #[.agg #[_, _, _, _, _, _, _, _, _, _, _, _]] _ _
  go_enter Tryz.func4, Tryz.ntmps4
  go_wp2_with (go_at_call 10; refine (fits2_any n.names S A1 c1 _ (Strs.mono (fun _ h _ => h) (Keeps.of_below ((Below.refl _ _).alloc (Nat.le_refl _) _)) H1.out) hn HX.out).mono ?_; rintro e w' ⟨rfl, rfl⟩)
  go_ret
  exact ⟨rfl, (Below.refl _ _).alloc (Nat.le_refl _) _⟩

end Go.Proofs.YtiogfkpclkkoaaaGreat
