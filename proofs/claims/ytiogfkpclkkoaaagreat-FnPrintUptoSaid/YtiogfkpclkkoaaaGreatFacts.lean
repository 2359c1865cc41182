/-
  Plain facts on worlds and lists that the walks use.
-/
import Derived.Test.YtiogfkpclkkoaaaGreatDefs
import Derived.Calls
import Derived.Laws.Rows
set_option linter.unusedVariables false
set_option linter.unusedSimpArgs false
namespace Go.Proofs.YtiogfkpclkkoaaaGreat
open Go.RowKit

/-- Some bool; where it is true the node is well shaped; nothing that was there has turned. -/
def ShapedPost (w : World) (d : Nat) (n : Nd) (e : Ending) (w' : World) : Prop := ∃ b, e = .returned (.bool b) ∧ (b = true → Shp d n) ∧ Below w.heap.size w w'

theorem ShapedPost.no {w : World} {d : Nat} {n : Nd} {w' : World} (h : Below w.heap.size w w') : ShapedPost w d n (.returned (.bool false)) w' := ⟨false, rfl, fun h => absurd h (by simp), h⟩


theorem below_alloc {w w' : World} {o : Obj} (h : Below (w.alloc o).heap.size (w.alloc o) w') : Below w.heap.size w w' := ((Below.refl _ _).alloc (Nat.le_refl _) _).trans (h.mono (by simp))
theorem below_trans {a b c : World} (h : Below a.heap.size a b) (k : Below b.heap.size b c) : Below a.heap.size a c := h.trans (k.mono h.size)
theorem below_new (w : World) (o : Obj) : Below w.heap.size w (w.alloc o) := (Below.refl _ _).alloc (Nat.le_refl _) _

theorem ShapedPost.yes {w : World} {d : Nat} {n : Nd} {b : Bool} {w' : World} (hb : b = true → Shp d n) (h : Below w.heap.size w w') : ShapedPost w d n (.returned (.bool b)) w' := ⟨b, rfl, hb, h⟩

theorem one_of {l : List Nd} {p : Nd} (h : l.length = 1) (hp : ∀ h0 : 0 < l.length, l[0] = p) : l = [p] := by
  match l, h, hp with
  | [x], _, hp => have := hp (by simp); simp at this; rw [this]
theorem two_of {l : List Nd} {p q : Nd} (h : l.length = 2) (hp : ∀ h0 : 0 < l.length, l[0] = p) (hq : ∀ h0 : 1 < l.length, l[1] = q) : l = [p, q] := by
  match l, h, hp, hq with
  | [x, y], _, hp, hq => have := hp (by simp); have := hq (by simp); simp_all

/-- What each kid of the first j fits. -/
def FstK (f : Nd → Prop) (j : Nat) (l : List Nd) : Prop := ∀ i, (h : i < l.length) → i < j → f l[i]
theorem FstK.zero (f : Nd → Prop) (l : List Nd) : FstK f 0 l := fun _ _ h => absurd h (by omega)
theorem FstK.succ {f : Nd → Prop} {j : Nat} {l : List Nd} (h : FstK f j l) (hj : j < l.length) (hs : f l[j]) : FstK f (j + 1) l := fun i hi hlt => by
  rcases Nat.lt_or_ge i j with h' | h'
  · exact h i hi h'
  · obtain rfl : i = j := by omega
    exact hs
theorem FstK.all {f : Nd → Prop} {j : Nat} {l : List Nd} (h : FstK f j l) (hj : l.length ≤ j) : ∀ p ∈ l, f p := fun p hp => by
  obtain ⟨i, hi, rfl⟩ := List.getElem_of_mem hp
  exact h i hi (by omega)

/-- The block of the parameter, and what holds of it in every later world. -/
def Boxed (w wx : World) (cs : Array Value) (T : TypeId) : Prop := Below w.heap.size w wx ∧ wx.heap[w.heap.size]? = some (.cells cs T (0, 0))
theorem Boxed.of {w wx : World} {cs : Array Value} {T : TypeId} (h : Below (w.alloc (.cells cs T)).heap.size (w.alloc (.cells cs T)) wx) : Boxed w wx cs T :=
  ⟨((Below.refl _ _).alloc (Nat.le_refl _) _).trans (h.mono (by simp)), (h.block w.heap.size (by simp)).trans (heap_alloc_new w _)⟩
theorem Boxed.below {w wx wy : World} {cs : Array Value} {T : TypeId} (h : Boxed w wx cs T) (hb : Below wx.heap.size wx wy) : Boxed w wy cs T :=
  ⟨h.1.trans (hb.mono h.1.size), (hb.block _ (lt_of_block h.2)).trans h.2⟩
theorem Boxed.cell {w wx : World} {cs : Array Value} {T : TypeId} (h : Boxed w wx cs T) (j : Nat) : wx.cell? ⟨w.heap.size, j, none⟩ = cs[j]? := by simp [World.cell?, h.2]

end Go.Proofs.YtiogfkpclkkoaaaGreat
