/-
  What impl.built's parents use.
-/
import Derived.Test.YtiogfkpclkkoaaaGreatPipe
import Derived.Test.YtiogfkpclkkoaaaGreatBuiltA
set_option linter.unusedVariables false
set_option linter.unusedSimpArgs false
namespace Go.Proofs.YtiogfkpclkkoaaaGreat
open Go.RowKit

def BuiltAt (B d : Nat) : Prop := ∀ cs n w, IN w (· < B) d cs n → Sm d n → Shp d n → B ≤ w.heap.size → Calls Tryz.prog 16 #[.agg cs.toArray] w (BuiltPost w B d n)
def PipeAt (B d : Nat) : Prop := ∀ cs n w, IN w (· < B) d cs n → Sm d n → Shp d n → n.kind = 13 → B ≤ w.heap.size → Calls Tryz.prog 25 #[.agg cs.toArray] w (PipePost w B d n)
def ListAt (B d : Nat) : Prop := ∀ cs n w, IN w (· < B) d cs n → Sm d n → Shp d n → n.kind = 10 → B ≤ w.heap.size → Calls Tryz.prog 27 #[.agg cs.toArray] w (PipePost w B d n)

/-- A node of the package among old memory and memory from n on. -/
def Pn (w : World) (B n d : Nat) (b : Nat) (p : Nd) : Prop := PN w n (OldNew B n) TrNil d b p
/-- A row of them. -/
def Pns (w : World) (B n d : Nat) (v : Value) (l : List Nd) : Prop := RowP w (OldNew B n) 41 ifc (PN w n (OldNew B n) TrNil d) v l
/-- A row of nodes of the thin package, in old memory. -/
def Ino (w : World) (B d : Nat) (v : Value) (l : List Nd) : Prop := Row w (· < B) 17 (IN w (· < B) d) v l

theorem Pn.later {w w' : World} {B n n' d b : Nat} {p : Nd} (h : Pn w B n d b p) (hb : Below w.heap.size w w') (hn : n' ≤ n) : Pn w' B n' d b p :=
  PN.mono hn (fun b hb _ => hb.imp id (Nat.le_trans hn)) (Stays.of_below hb) d b p h
theorem Pns.later {w w' : World} {B n n' d : Nat} {v : Value} {l : List Nd} (h : Pns w B n d v l) (hb : Below w.heap.size w w') (hn : n' ≤ n) : Pns w' B n' d v l :=
  RowP.mono (fun b hb _ => hb.imp id (Nat.le_trans hn)) (Stays.of_below hb) (fun b p h => Pn.later h hb hn) h
theorem Ino.later {w w' : World} {B d : Nat} {v : Value} {l : List Nd} (h : Ino w B d v l) (hb : Below w.heap.size w w') : Ino w' B d v l :=
  Row.mono (fun cs a _ => IN.mono (fun b hb _ => hb) (Keeps.of_below hb) d cs a) (fun b hb _ => hb) (Keeps.of_below hb) h
theorem Pns.form {w : World} {B n d : Nat} {v : Value} {l : List Nd} (h : Pns w B n d v l) : ∃ A c, v = .slice A l.length c := by
  rcases h with ⟨rfl, rfl⟩ | ⟨g, cap, cur, rfl, _⟩
  · exact ⟨_, _, rfl⟩
  · exact ⟨_, _, rfl⟩

theorem SeveralPost.use {W w1 : World} {B d : Nat} {l : List Nd} {e : Ending} (h : SeveralPost W B d l e w1) (n : Nat) (hn : n ≤ W.heap.size) :
    ∃ A c, e = .returned (.tuple #[.slice A l.length c, .bool true]) ∧ Pns w1 B n d (.slice A l.length c) l ∧ Below W.heap.size W w1 := by
  obtain ⟨v, rfl, hr, hb⟩ := h
  have hr' : Pns w1 B W.heap.size d v l := hr
  obtain ⟨A, c, rfl⟩ := hr'.form
  exact ⟨A, c, rfl, hr'.later (Below.refl _ _) hn, hb⟩
theorem PipePost.use {W w1 : World} {B d : Nat} {p : Nd} {e : Ending} (h : PipePost W B d p e w1) (n : Nat) (hn : n ≤ W.heap.size) :
    ∃ b, e = .returned (.tuple #[.pointer (some ⟨b, 0, none⟩), .bool true]) ∧ Pn w1 B n d b p ∧ Below W.heap.size W w1 := by
  obtain ⟨b, rfl, hr, hb⟩ := h
  exact ⟨b, rfl, Pn.later hr (Below.refl _ _) hn, hb⟩

/-- The node's own block, made last. -/
theorem Pn.new {w W : World} {B d b : Nat} {n : Nd} {E : TypeId} {cs : Array Value} (hb : w.heap.size ≤ b) (hh : W.heap[b]? = some (.cells cs E (0, 0)))
    (hbody : PBody W (OldNew B w.heap.size) (.pointer none) (PN W w.heap.size (OldNew B w.heap.size) TrNil d) n E cs) : PN W w.heap.size (OldNew B w.heap.size) TrNil (d + 1) b n :=
  PN.new hb rfl hh hbody

/-- The parameter's block, in a later world. -/
theorem box_at {w w1 : World} {cs : Array Value} {T : TypeId} (hb : Below (w.alloc (.cells cs T)).heap.size (w.alloc (.cells cs T)) w1) (i : Nat) : w1.cell? ⟨w.heap.size, i, none⟩ = cs[i]? := by
  have h := (hb.block w.heap.size (by simp)).trans (heap_alloc_new w (.cells cs T))
  simp [World.cell?, h]

end Go.Proofs.YtiogfkpclkkoaaaGreat
