/-
  Plain words: a list of nothing but white space and comments.
-/
import Derived.Test.YtpoedkaggfojgaaGreatDoorPn
set_option linter.unusedVariables false
set_option linter.unusedSimpArgs false
namespace Go.Proofs.YtpoedkaggfojgaaGreatDoor
open Go.RowKit

def wsN (c : Nat) : Bool := c == 32 || (decide (9 ≤ c) && decide (c ≤ 13))
/-- All of a text is white space. -/
def wsText (s : ByteArray) : Bool := s.data.toList.all fun c => wsN c.toNat

def emptyD : Nat → Nd → Bool
  | 0, _ => false
  | d + 1, n => if n.kind = 19 then true else if n.kind = 1 then wsText n.text else if n.kind = 10 then n.kids.all (emptyD d) else false

def Ascii (s : ByteArray) : Prop := ∀ c ∈ s.data.toList, c.toNat < 128
/-- A kid that the law asks of. -/
def AskedK (n : Nd) : Prop := n.kind ≠ 20 ∧ n.kind ≠ 21 ∧ (n.kind = 1 → Ascii n.text)
def AskedP (n : Nd) : Prop := ∀ k ∈ n.kids, AskedK k

/-- The table of white space below 256. -/
def Tab (w : World) : Prop := ∀ i, i < 128 → w.cell? ⟨1, i, none⟩ = some (.int .u8 (if wsN i then 1 else 0))

theorem Tab.later {w w' : World} {B : Nat} (h : Tab w) (hb : Below B w w') (hB : 1 < B) : Tab w' := fun i hi => (World.cell?_of_block (a := ⟨1, i, none⟩) (hb.block _ hB)).trans (h i hi)

theorem wsText_of {s : ByteArray} (h : ∀ j, j < s.size → ∃ x, (s.data.toList[j]?).map UInt8.toNat = some x ∧ wsN x = true) : wsText s = true := by
  unfold wsText
  rw [List.all_eq_true]
  intro c hc
  obtain ⟨j, hj, rfl⟩ := List.getElem_of_mem hc
  obtain ⟨x, h1, h2⟩ := h j (by simpa using hj)
  rw [List.getElem?_eq_getElem hj] at h1
  have : s.data.toList[j].toNat = x := Option.some.inj h1
  rw [this]
  exact h2
theorem wsText_not {s : ByteArray} {k x : Nat} (h : (s.data.toList[k]?).map UInt8.toNat = some x) (hx : ¬ wsN x = true) : ¬ wsText s = true := by
  unfold wsText
  rw [List.all_eq_true]
  intro hall
  cases hq : s.data.toList[k]? with
  | none => rw [hq] at h; cases h
  | some c =>
    rw [hq] at h
    have e : c.toNat = x := Option.some.inj h
    obtain ⟨hj, rfl⟩ := List.getElem?_eq_some_iff.1 hq
    exact hx (e ▸ hall _ (List.getElem_mem hj))

end Go.Proofs.YtpoedkaggfojgaaGreatDoor
