/-
  What spec.Named says of a node.
-/
import Derived.Test.YtiogfkpclkkoaaaGreatFacts
set_option linter.unusedVariables false
namespace Go.Proofs.YtiogfkpclkkoaaaGreat
open Go.RowKit

theorem heap_alloc2 (w : World) (o o' : Obj) : ((w.alloc o).alloc o').heap[w.heap.size + 1]? = some o' := by
  have h := heap_alloc_new (w.alloc o) o'
  rwa [World.size_alloc] at h

/-- Printable characters of ASCII, neither quotes nor backslashes. -/
def SimpleS (s : ByteArray) : Prop := ∀ i, (h : i < s.size) → 32 ≤ s[i].toNat ∧ s[i].toNat ≤ 126 ∧ ¬ s[i].toNat = 34 ∧ ¬ s[i].toNat = 92
def SimpleTo (s : ByteArray) (j : Nat) : Prop := ∀ i, (h : i < s.size) → i < j → 32 ≤ s[i].toNat ∧ s[i].toNat ≤ 126 ∧ ¬ s[i].toNat = 34 ∧ ¬ s[i].toNat = 92
theorem SimpleTo.succ {s : ByteArray} {j : Nat} (h : SimpleTo s j) (hj : j < s.size) (hs : 32 ≤ s[j].toNat ∧ s[j].toNat ≤ 126 ∧ ¬ s[j].toNat = 34 ∧ ¬ s[j].toNat = 92) : SimpleTo s (j + 1) := fun i hi hlt => by
  rcases Nat.lt_or_ge i j with h' | h'
  · exact h i hi h'
  · obtain rfl : i = j := by omega
    exact hs
def SimplePost (w : World) (s : ByteArray) (e : Ending) (w' : World) : Prop := ∃ b, e = .returned (.bool b) ∧ (b = true → SimpleS s) ∧ w = w'

/-- The names of all templates that a node calls are simple. -/
def Nmd : Nat → Nd → Prop
  | 0, _ => False
  | d + 1, n => (n.kind = 16 → SimpleS n.text) ∧ (∀ k ∈ n.kids, Nmd d k) ∧ (∀ k ∈ n.els, Nmd d k)
def NamedPost (w : World) (d : Nat) (n : Nd) (e : Ending) (w' : World) : Prop := ∃ b, e = .returned (.bool b) ∧ (b = true → Nmd d n) ∧ Below w.heap.size w w'
theorem NamedPost.no {w : World} {d : Nat} {n : Nd} {w' : World} (h : Below w.heap.size w w') : NamedPost w d n (.returned (.bool false)) w' := ⟨false, rfl, fun h => absurd h (by simp), h⟩

end Go.Proofs.YtiogfkpclkkoaaaGreat
