/-
  The walk of spec.neat: it returns some bool.
-/
import Derived.Test.YtiogfkpclkkoaaaGreatProg
import Derived.WalkKit
import Derived.WalkSpells
import Derived.WalkLawsBesides
set_option linter.unusedVariables false
set_option linter.unusedSimpArgs false
namespace Go.Proofs.YtiogfkpclkkoaaaGreat
open Go.RowKit

/-- It returned some bool, and nothing that was there has turned. -/
def SomeBool (w : World) (e : Ending) (w' : World) : Prop := ∃ b, e = .returned (.bool b) ∧ Below w.heap.size w w'

set_option maxHeartbeats 4000000 in
theorem neat_any (k : Int) (t v : ByteArray) (A1 A2 A3 A4 : Option Addr) (m1 n1 m2 n2 m3 n3 m4 n4 : Nat) (b1 b2 b3 b4 : Bool) (x : Int) (w : World) :
    Calls Tryz.prog 12 #[.agg #[.int .i64 k, .string t, .string v, .slice A1 m1 n1, .bool b1, .bool b2, .slice A2 m2 n2, .slice A3 m3 n3, .slice A4 m4 n4, .bool b3, .int .i64 x, .bool b4]] w (SomeBool w) := by
  by_cases h1 : k = 1
  · subst h1
    go_enter Tryz.func12, Tryz.ntmps12
    go_wp2
    all_goals go_ret
    all_goals exact ⟨_, rfl, (Below.refl _ _).alloc (Nat.le_refl _) _⟩
  by_cases h19 : k = 19
  · subst h19
    go_enter Tryz.func12, Tryz.ntmps12
    go_wp2
    all_goals go_ret
    all_goals exact ⟨_, rfl, (Below.refl _ _).alloc (Nat.le_refl _) _⟩
  by_cases h8 : k = 8
  · subst h8
    go_enter Tryz.func12, Tryz.ntmps12
    go_wp2
    all_goals go_ret
    all_goals exact ⟨_, rfl, (Below.refl _ _).alloc (Nat.le_refl _) _⟩
  by_cases h16 : k = 16
  · subst h16
    go_enter Tryz.func12, Tryz.ntmps12
    go_wp2
    all_goals go_ret
    all_goals exact ⟨_, rfl, (Below.refl _ _).alloc (Nat.le_refl _) _⟩
  by_cases h12 : k = 12
  · subst h12
    go_enter Tryz.func12, Tryz.ntmps12
    go_wp2
    all_goals go_ret
    all_goals exact ⟨_, rfl, (Below.refl _ _).alloc (Nat.le_refl _) _⟩
  by_cases h15 : k = 15
  · subst h15
    go_enter Tryz.func12, Tryz.ntmps12
    go_wp2
    all_goals go_ret
    all_goals exact ⟨_, rfl, (Below.refl _ _).alloc (Nat.le_refl _) _⟩
  by_cases h7 : k = 7
  · subst h7
    go_enter Tryz.func12, Tryz.ntmps12
    go_wp2
    all_goals go_ret
    all_goals exact ⟨_, rfl, (Below.refl _ _).alloc (Nat.le_refl _) _⟩
  by_cases h17 : k = 17
  · subst h17
    go_enter Tryz.func12, Tryz.ntmps12
    go_wp2
    all_goals go_ret
    all_goals exact ⟨_, rfl, (Below.refl _ _).alloc (Nat.le_refl _) _⟩
  by_cases h4 : k = 4
  · subst h4
    go_enter Tryz.func12, Tryz.ntmps12
    go_wp2
    all_goals go_ret
    all_goals exact ⟨_, rfl, (Below.refl _ _).alloc (Nat.le_refl _) _⟩
  by_cases h3 : k = 3
  · subst h3
    go_enter Tryz.func12, Tryz.ntmps12
    go_wp2
    all_goals go_ret
    all_goals exact ⟨_, rfl, (Below.refl _ _).alloc (Nat.le_refl _) _⟩
  by_cases h13 : k = 13
  · subst h13
    go_enter Tryz.func12, Tryz.ntmps12
    go_wp2
    all_goals go_ret
    all_goals exact ⟨_, rfl, (Below.refl _ _).alloc (Nat.le_refl _) _⟩
  have e1 : (k == 1) = false := by simpa using h1
  have e19 : (k == 19) = false := by simpa using h19
  have e8 : (k == 8) = false := by simpa using h8
  have e16 : (k == 16) = false := by simpa using h16
  have e12 : (k == 12) = false := by simpa using h12
  have e15 : (k == 15) = false := by simpa using h15
  have e7 : (k == 7) = false := by simpa using h7
  have e17 : (k == 17) = false := by simpa using h17
  have e4 : (k == 4) = false := by simpa using h4
  have e3 : (k == 3) = false := by simpa using h3
  have e13 : (k == 13) = false := by simpa using h13
  clear h1 h19 h8 h16 h12 h15 h7 h17 h4 h3 h13
  go_enter Tryz.func12, Tryz.ntmps12
  go_wp2
  all_goals go_ret
  all_goals exact ⟨_, rfl, (Below.refl _ _).alloc (Nat.le_refl _) _⟩
end Go.Proofs.YtiogfkpclkkoaaaGreat
