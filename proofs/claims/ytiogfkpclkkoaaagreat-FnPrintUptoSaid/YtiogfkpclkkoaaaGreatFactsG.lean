/-
  What laws.given and laws.givens hand back.
-/
import Derived.Test.YtiogfkpclkkoaaaGreatFactsN
import Derived.Laws.Tables
set_option linter.unusedVariables false
namespace Go.Proofs.YtiogfkpclkkoaaaGreat
open Go.RowKit

/-- Old memory (below B), or memory from block n on. -/
def OldNew (B n : Nat) : Nat → Prop := fun b => b < B ∨ n ≤ b

/-- A slice of nodes of the thin package that reads as l; new blocks alone. -/
def GivensPost (w : World) (B d : Nat) (l : List Nd) (e : Ending) (w' : World) : Prop :=
  ∃ v, e = .returned v ∧ Row w' (OldNew B w.heap.size) 17 (IN w' (OldNew B w.heap.size) d) v l ∧ Below w.heap.size w w'
/-- A node of the thin package that reads as n; new blocks alone. -/
def GivenPost (w : World) (B d : Nat) (n : Nd) (e : Ending) (w' : World) : Prop :=
  ∃ cs, e = .returned (.agg cs.toArray) ∧ IN w' (OldNew B w.heap.size) d cs n ∧ Below w.heap.size w w'

/-- A row of nodes, in a later world. -/
def Ins (w : World) (B n d : Nat) (v : Value) (l : List Nd) : Prop := Row w (OldNew B n) 17 (IN w (OldNew B n) d) v l
theorem Ins.later {w w' : World} {B n n' d : Nat} {v : Value} {l : List Nd} (h : Ins w B n d v l) (hb : Below w.heap.size w w') (hn : n' ≤ n) : Ins w' B n' d v l :=
  Row.mono (fun cs a _ => IN.mono (fun b hb _ => hb.imp id (Nat.le_trans hn)) (Keeps.of_below hb) d cs a) (fun b hb _ => hb.imp id (Nat.le_trans hn)) (Keeps.of_below hb) h
theorem Ins.form {w : World} {B n d : Nat} {v : Value} {l : List Nd} (h : Ins w B n d v l) : ∃ A c, v = .slice A l.length c := Row.form h
theorem GivensPost.use {W w1 : World} {B d n : Nat} {l : List Nd} {e : Ending} (h : GivensPost W B d l e w1) (hn : n ≤ W.heap.size) : ∃ v, e = .returned v ∧ Ins w1 B n d v l ∧ Below W.heap.size W w1 := by
  obtain ⟨v, he, hr, hb⟩ := h
  have hr' : Ins w1 B W.heap.size d v l := hr
  exact ⟨v, he, hr'.later (Below.refl _ _) hn, hb⟩
theorem Ins.keep {w w' : World} {B n n' d : Nat} {v : Value} {l : List Nd} (h : Ins w B n d v l) (hk : Keeps (OldNew B n) w w') (hn : n' ≤ n) : Ins w' B n' d v l :=
  Row.mono (fun cs a _ => IN.mono (fun b hb _ => hb.imp id (Nat.le_trans hn)) hk d cs a) (fun b hb _ => hb.imp id (Nat.le_trans hn)) hk h
/-- The same for nodes of the reference. -/
def Sns (w : World) (B d : Nat) (v : Value) (l : List Nd) : Prop := Row w (· < B) 12 (SN w (· < B) d) v l
theorem Sns.later {w w' : World} {B d : Nat} {v : Value} {l : List Nd} (h : Sns w B d v l) (hb : Below w.heap.size w w') : Sns w' B d v l :=
  Row.mono (fun cs a _ => SN.mono (fun b hb _ => hb) (Keeps.of_below hb) d cs a) (fun b hb _ => hb) (Keeps.of_below hb) h


theorem setRow_other (w : World) (g : Nat) (cs : Array Value) (b : Nat) (h : b ≠ g) : (w.setRow g cs).heap[b]? = w.heap[b]? := by
  simp only [World.setRow, Array.getElem?_modify]
  rw [if_neg (fun e => h e.symm)]
theorem Below.setRow {B : Nat} {a w : World} (h : Below B a w) {g : Nat} (hg : B ≤ g) (cs : Array Value) : Below B a (w.setRow g cs) :=
  h.trans ⟨rfl, rfl, rfl, by simp [World.setRow], fun k hk => setRow_other _ _ _ _ (by omega)⟩
theorem Keeps.setRow {S : Nat → Prop} (w : World) (g : Nat) (cs : Array Value) (h : ∀ b, S b → b ≠ g) : Keeps S w (w.setRow g cs) := Keeps.of_blocks fun b hb _ => setRow_other _ _ _ _ (h b hb)

end Go.Proofs.YtiogfkpclkkoaaaGreat
