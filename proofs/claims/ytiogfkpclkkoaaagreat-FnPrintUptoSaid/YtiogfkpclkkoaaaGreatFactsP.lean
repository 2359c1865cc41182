/-
  What impl.pipe's loops keep.
-/
import Derived.Test.YtiogfkpclkkoaaaGreatSeveral
import Derived.Deep.Heap
set_option linter.unusedVariables false
set_option linter.unusedSimpArgs false
namespace Go.Proofs.YtiogfkpclkkoaaaGreat
open Go.RowKit

theorem own_form {w : World} {base size n : Nat} {e : TypeId} {v : Value} {xs : List Value} (h : w.ownsRow base e size v n xs) : ∃ A c, v = .slice A n c := by
  obtain ⟨_, ⟨rfl, rfl⟩ | ⟨g, cap, cur, rfl, _⟩⟩ := h
  · exact ⟨_, _, rfl⟩
  · exact ⟨_, _, rfl⟩

theorem setCell_heap {W : World} {b i : Nat} {cs : Array Value} {T : TypeId} {fr : Nat × Nat} (v : Value) (h : W.heap[b]? = some (.cells cs T fr)) : (W.setCell ⟨b, i, none⟩ v).heap[b]? = some (.cells (cs.setIfInBounds i v) T fr) := by
  simp [World.setCell, Array.getElem?_modify, h]
theorem setCell_far (W : World) (b i k : Nat) (v : Value) (h : k ≠ b) : (W.setCell ⟨b, i, none⟩ v).heap[k]? = W.heap[k]? := by
  simp only [World.setCell, Array.getElem?_modify, if_neg (Ne.symm h)]
theorem setCell_size (W : World) (a : Addr) (v : Value) : (W.setCell a v).heap.size = W.heap.size := by simp [World.setCell]
theorem Below.setCell' {B : Nat} {a w : World} (h : Below B a w) {g i : Nat} (hg : B ≤ g) (v : Value) : Below B a (w.setCell ⟨g, i, none⟩ v) :=
  h.trans ⟨rfl, rfl, rfl, by rw [setCell_size]; exact Nat.le_refl _, fun k hk => setCell_far _ _ _ _ _ (by omega)⟩

/-- The parameter's block and the node's block, in a later world. -/
def PG (E : TypeId) (w W : World) (row pn : Array Value) : Prop :=
  Below w.heap.size w W ∧ W.heap[w.heap.size]? = some (.cells row 33 (0, 0)) ∧ W.heap[w.heap.size + 1]? = some (.cells pn E (0, 0))
theorem PG.later {E : TypeId} {w W W' : World} {row pn : Array Value} (h : PG E w W row pn) (hb : Below W.heap.size W W') : PG E w W' row pn :=
  ⟨h.1.trans (hb.mono h.1.size), (hb.block _ (lt_of_block h.2.1)).trans h.2.1, (hb.block _ (lt_of_block h.2.2)).trans h.2.2⟩
theorem PG.grown {E : TypeId} {w W W' : World} {row pn : Array Value} {ob : Option Nat} (h : PG E w W row pn) (hg : W.grownBy W' ob) (hob : ∀ g, ob = some g → w.heap.size + 2 ≤ g) : PG E w W' row pn :=
  ⟨h.1.grown hg h.1.size (fun g e => by have := hob g e; omega), (hg.block _ (lt_of_block h.2.1) (fun e => by have := hob _ e.symm; omega)).trans h.2.1, (hg.block _ (lt_of_block h.2.2) (fun e => by have := hob _ e.symm; omega)).trans h.2.2⟩
theorem PG.set {E : TypeId} {w W : World} {row pn : Array Value} (h : PG E w W row pn) (i : Nat) (v : Value) : PG E w (W.setCell ⟨w.heap.size + 1, i, none⟩ v) row (pn.setIfInBounds i v) :=
  ⟨Below.setCell' h.1 (by omega) v, (setCell_far _ _ _ _ _ (by omega)).trans h.2.1, setCell_heap v h.2.2⟩
theorem PG.two {E : TypeId} {w W : World} {row pn : Array Value} (h : PG E w W row pn) : w.heap.size + 2 ≤ W.heap.size := lt_of_block h.2.2
theorem PG.at0 {E : TypeId} {w W : World} {row pn : Array Value} (h : PG E w W row pn) (i : Nat) : W.cell? ⟨w.heap.size, i, none⟩ = row[i]? := by simp [World.cell?, h.2.1]
theorem PG.at1 {E : TypeId} {w W : World} {row pn : Array Value} (h : PG E w W row pn) (i : Nat) : W.cell? ⟨w.heap.size + 1, i, none⟩ = pn[i]? := by simp [World.cell?, h.2.2]
theorem PG.fr1 {E : TypeId} {w W : World} {row pn : Array Value} (h : PG E w W row pn) (i : Nat) : W.frozen? ⟨w.heap.size + 1, i, none⟩ = false := by simp [World.frozen?, h.2.2]

def ptrf (_ : Nd) (b : Nat) : Value := .pointer (some ⟨b, 0, none⟩)

/-- A loop that appends pointers to a field of the node's block. -/
def PL (w wo wr : World) (B d : Nat) (T : TypeId) (row pn : Array Value) (v : Value) (k : Nat) (xs : List Value) (l : List Nd) : Prop :=
  wr.ownsRow wo.heap.size T 1 v k xs ∧ FirstsP wr wo.heap.size (OldNew B wo.heap.size) v.ownBlock d k ptrf xs l ∧ PG 138 w wr row pn ∧ Stays (OldNew B (w.heap.size + 2)) wo wr ∧ wo.heap.size ≤ wr.heap.size

theorem PL.zero {w wo : World} {B d : Nat} {T : TypeId} {row pn : Array Value} {l : List Nd} (h : PG 138 w wo row pn) : PL w wo wo B d T row pn (.slice none 0 0) 0 [] l :=
  ⟨⟨by simp, Or.inl ⟨rfl, rfl⟩⟩, .zero _ _ _ _ _ _ _ _, h, fun _ _ _ => rfl, Nat.le_refl _⟩

theorem PL.step {w wo wr w1 w2 : World} {B d k bq i : Nat} {T : TypeId} {row pn pn' : Array Value} {v v' : Value} {xs : List Value} {l : List Nd} {c c2 : Obj}
    (h : PL w wo wr B d T row pn v k xs l) (hk : k < l.length) (hB : B ≤ w.heap.size) (hwo : w.heap.size + 2 ≤ wo.heap.size)
    (hb : Below (wr.alloc c).heap.size (wr.alloc c) w1) (hpn : PN w1 (wr.alloc c).heap.size (OldNew B (wr.alloc c).heap.size) TrNil d bq l[k])
    (hgr : (w1.alloc c2).grownBy w2 v.ownBlock) (hown2 : w2.ownsRow wo.heap.size T 1 v' (k + 1) (xs ++ [.pointer (some ⟨bq, 0, none⟩)])) (hat : v'.ownBlock = v.ownBlock ∨ v'.ownBlock = some (w1.alloc c2).heap.size)
    (hpg : PG 138 w (w2.setCell ⟨w.heap.size + 1, i, none⟩ v') row pn') : PL w wo (w2.setCell ⟨w.heap.size + 1, i, none⟩ v') B d T row pn' v' (k + 1) (xs ++ [.pointer (some ⟨bq, 0, none⟩)]) l := by
  obtain ⟨own, fst, pg, st, le⟩ := h
  have h1 : (wr.alloc c).heap.size = wr.heap.size + 1 := World.size_alloc _ _
  have h2 : (w1.alloc c2).heap.size = w1.heap.size + 1 := World.size_alloc _ _
  have h3 := hb.size
  have h4 := hgr.size
  have bn : Below w1.heap.size w1 (w1.alloc c2) := below_new _ _
  have hb1 : Below wr.heap.size wr w1 := below_alloc hb
  have hobl : ∀ g, v.ownBlock = some g → wo.heap.size ≤ g ∧ g < wr.heap.size := fun g hg => own_lt own hg
  have f0 : FirstsP (w1.alloc c2) wo.heap.size (OldNew B wo.heap.size) v.ownBlock d k ptrf xs l := fst.keep (fun b hb h _ => ⟨hb, h⟩) (Stays.of_below (below_trans hb1 bn))
  have hpn' : PN (w1.alloc c2) wo.heap.size (fun b => OldNew B wo.heap.size b ∧ some b ≠ v.ownBlock) TrNil d bq l[k] :=
    PN.mono (by omega) (fun b hb' _ => ⟨hb'.imp id (fun h => by omega), fun he => by have := hobl _ he.symm; rcases hb' with hb' | hb' <;> omega⟩) (Stays.of_below bn) _ _ _ hpn
  have f1 := f0.succ own.1 hk hpn'
  have hst : Stays (fun b => OldNew B wo.heap.size b ∧ some b ≠ v.ownBlock) (w1.alloc c2) (w2.setCell ⟨w.heap.size + 1, i, none⟩ v') := fun b hb' hl => by
    rw [setCell_far _ _ _ _ _ (by rcases hb'.1 with h | h <;> omega)]
    exact hgr.block b hl hb'.2
  refine ⟨ownsRow_setCell_below hown2 (show w.heap.size + 1 < wo.heap.size by omega) _, f1.keep (fun b hb' h hl => ⟨hb', ?_⟩) hst, hpg, fun b hb' hl => ?_, by rw [setCell_size]; omega⟩
  · rcases hat with hat | hat
    · rw [hat]; exact h
    · rw [hat]; intro he; injection he with he; omega
  · have e0 : wr.heap[b]? = wo.heap[b]? := st b hb' hl
    rw [setCell_far _ _ _ _ _ (by rcases hb' with h | h <;> omega), hgr.block b (by omega) (fun he => by have := hobl _ he.symm; omega), bn.block b (by omega), hb1.block b (by omega)]
    exact e0

/-- What the loop leaves, for the node. -/
theorem PL.row {w wo wr : World} {B d k : Nat} {T : TypeId} {row pn : Array Value} {v : Value} {xs : List Value} {l : List Nd} (h : PL w wo wr B d T row pn v k xs l) (hk : k = l.length) (hwo : w.heap.size ≤ wo.heap.size) :
    RowP wr (OldNew B wo.heap.size) T ptrf (PN wr wo.heap.size (OldNew B wo.heap.size) TrNil d) v l :=
  h.2.1.row hk h.1 (fun _ h => h) (fun b h => Or.inr h)

theorem RowP.widen {w w' : World} {B n n' base base' d : Nat} {T : TypeId} {f : Nd → Nat → Value} {v : Value} {l : List Nd} (h : RowP w (OldNew B n) T f (PN w base (OldNew B n) TrNil d) v l) (hn : n' ≤ n) (hb : base' ≤ base) (hk : Stays (OldNew B n) w w') :
    RowP w' (OldNew B n') T f (PN w' base' (OldNew B n') TrNil d) v l :=
  RowP.mono (fun b hb _ => hb.imp id (Nat.le_trans hn)) hk (fun b n h => PN.mono hb (fun b hb _ => hb.imp id (Nat.le_trans hn)) hk d b n h) h

theorem info_vn : (Tryz.prog.info? 83).map (fun i => (i.zero, i.size, i.bytes)) = some (some (.pointer none), 1, 8) := by kernel_rfl
theorem info_cn : (Tryz.prog.info? 103).map (fun i => (i.zero, i.size, i.bytes)) = some (some (.pointer none), 1, 8) := by kernel_rfl

/-- impl.pipe hands back the node's pointer. -/
def PipePost (w : World) (B d : Nat) (n : Nd) (e : Ending) (w' : World) : Prop :=
  ∃ b, e = .returned (.tuple #[.pointer (some ⟨b, 0, none⟩), .bool true]) ∧ PN w' w.heap.size (OldNew B w.heap.size) TrNil d b n ∧ Below w.heap.size w w'

end Go.Proofs.YtiogfkpclkkoaaaGreat
