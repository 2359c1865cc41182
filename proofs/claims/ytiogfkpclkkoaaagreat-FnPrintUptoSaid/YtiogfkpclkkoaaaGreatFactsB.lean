/-
  What impl.built and its fellows hand back.
-/
import Derived.Test.YtiogfkpclkkoaaaGreatPn
set_option linter.unusedVariables false
namespace Go.Proofs.YtiogfkpclkkoaaaGreat
open Go.RowKit

/-- The tree's field is nil. -/
def TrNil (v : Value) : Prop := v = .pointer none

/-- A node of the package for n, in new blocks. -/
def BuiltPost (w : World) (B d : Nat) (n : Nd) (e : Ending) (w' : World) : Prop :=
  ∃ b, e = .returned (.tuple #[ifc n b, .bool true]) ∧ PN w' w.heap.size (OldNew B w.heap.size) TrNil d b n ∧ Below w.heap.size w w'

/-- Its block, laid last, in a world where nothing else that it reads has turned. -/
theorem PN.new {w W : World} {B d : Nat} {n : Nd} {trv : Value} {E : TypeId} {cs : Array Value} {b : Nat} {tr : Value → Prop} (hb : w.heap.size ≤ b) (ht : tr trv) (hh : W.heap[b]? = some (.cells cs E (0, 0)))
    (hbody : PBody W (OldNew B w.heap.size) trv (PN W w.heap.size (OldNew B w.heap.size) tr d) n E cs) : PN W w.heap.size (OldNew B w.heap.size) tr (d + 1) b n :=
  ⟨hb, Or.inr hb, trv, E, cs, ht, hh, hbody⟩

theorem Strs.toNew {w W : World} {B : Nat} {v : Value} {l : List ByteArray} (h : Strs w (· < B) v l) (hb : Below w.heap.size w W) : Strs W (OldNew B w.heap.size) v l :=
  Strs.mono (fun _ h _ => Or.inl h) (Keeps.of_below hb) h

end Go.Proofs.YtiogfkpclkkoaaaGreat
