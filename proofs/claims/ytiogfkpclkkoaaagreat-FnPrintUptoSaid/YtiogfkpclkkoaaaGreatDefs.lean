/-
  Plain words: a node of the reference as a Lean value, how such a node lies in memory, how a node of the package lies in memory, what it prints. No program in sight.
-/
import Derived.Below
import Derived.Laws.OwnMore
set_option linter.unusedVariables false
set_option linter.unusedSimpArgs false
namespace Go.Proofs.YtiogfkpclkkoaaaGreat
open Go.RowKit

/-- A node of the reference. -/
inductive Nd where
  | mk (kind : Int) (text value : ByteArray) (names : List ByteArray) (tru assign : Bool) (decl kids els : List Nd) (hasElse : Bool) (num : Int) (exact : Bool)

namespace Nd
def kind : Nd → Int | .mk k _ _ _ _ _ _ _ _ _ _ _ => k
def text : Nd → ByteArray | .mk _ t _ _ _ _ _ _ _ _ _ _ => t
def value : Nd → ByteArray | .mk _ _ v _ _ _ _ _ _ _ _ _ => v
def names : Nd → List ByteArray | .mk _ _ _ l _ _ _ _ _ _ _ _ => l
def tru : Nd → Bool | .mk _ _ _ _ b _ _ _ _ _ _ _ => b
def assign : Nd → Bool | .mk _ _ _ _ _ b _ _ _ _ _ _ => b
def decl : Nd → List Nd | .mk _ _ _ _ _ _ l _ _ _ _ _ => l
def kids : Nd → List Nd | .mk _ _ _ _ _ _ _ l _ _ _ _ => l
def els : Nd → List Nd | .mk _ _ _ _ _ _ _ _ l _ _ _ => l
def hasElse : Nd → Bool | .mk _ _ _ _ _ _ _ _ _ b _ _ => b
def num : Nd → Int | .mk _ _ _ _ _ _ _ _ _ _ n _ => n
def exact : Nd → Bool | .mk _ _ _ _ _ _ _ _ _ _ _ b => b
end Nd

/-! ### Memory -/

/-- A slice of k cells an element reads as the list l: element i's cells read as R says. S: where the row may lie. -/
def Row {α : Type} (w : World) (S : Nat → Prop) (k : Nat) (R : List Value → α → Prop) (v : Value) (l : List α) : Prop :=
  ∃ A cap, v = .slice A l.length cap ∧ (0 < l.length → ∃ b o, A = some ⟨b, o, none⟩ ∧ S b ∧ b < w.heap.size ∧
    ∀ i, (h : i < l.length) → ∃ cs, R cs l[i] ∧ ∀ j, (hj : j < cs.length) → w.cell? ⟨b, o + i * k + j, none⟩ = some cs[j])

/-- What lay in S lies there still. -/
def Keeps (S : Nat → Prop) (w w' : World) : Prop := ∀ b, S b → b < w.heap.size → b < w'.heap.size ∧ ∀ o v, w.cell? ⟨b, o, none⟩ = some v → w'.cell? ⟨b, o, none⟩ = some v

theorem Keeps.refl (S : Nat → Prop) (w : World) : Keeps S w w := fun _ _ h => ⟨h, fun _ _ h => h⟩
theorem Keeps.trans {S : Nat → Prop} {a b c : World} (h : Keeps S a b) (k : Keeps S b c) : Keeps S a c :=
  fun x hx hl => ⟨(k x hx (h x hx hl).1).1, fun o v hv => (k x hx (h x hx hl).1).2 o v ((h x hx hl).2 o v hv)⟩
theorem Keeps.mono {S S' : Nat → Prop} {w w' : World} (h : Keeps S w w') (hs : ∀ b, S' b → S b) : Keeps S' w w' := fun b hb => h b (hs b hb)

theorem lt_of_cell {w : World} {b o : Nat} {v : Value} (h : w.cell? ⟨b, o, none⟩ = some v) : b < w.heap.size := by
  rcases Nat.lt_or_ge b w.heap.size with h' | h'
  · exact h'
  · simp [World.cell?, Array.getElem?_eq_none h'] at h

theorem lt_of_block {w : World} {b : Nat} {x : Obj} (h : w.heap[b]? = some x) : b < w.heap.size := by
  rcases Nat.lt_or_ge b w.heap.size with h' | h'
  · exact h'
  · rw [Array.getElem?_eq_none h'] at h; cases h

theorem Keeps.of_blocks {S : Nat → Prop} {w w' : World} (h : ∀ b, S b → b < w.heap.size → w'.heap[b]? = w.heap[b]?) : Keeps S w w' := by
  intro b hb hl
  have e := h b hb hl
  refine ⟨lt_of_block (w := w') (x := w.heap[b]) (by rw [e]; exact Array.getElem?_eq_getElem hl), fun o v hv => ?_⟩
  rw [World.cell?_of_block (w := w) (w' := w') (a := ⟨b, o, none⟩) e]
  exact hv

theorem Keeps.of_below {S : Nat → Prop} {w w' : World} (h : Below w.heap.size w w') : Keeps S w w' := Keeps.of_blocks fun b _ hl => h.block b hl
theorem Keeps.of_below' {B : Nat} {w w' : World} (h : Below B w w') : Keeps (· < B) w w' := Keeps.of_blocks fun b hb _ => h.block b hb
theorem Keeps.of_heap {S : Nat → Prop} {w w' : World} (h : w'.heap = w.heap) : Keeps S w w' := Keeps.of_blocks fun b _ _ => by rw [h]

theorem Row.mono {α : Type} {w w' : World} {S S' : Nat → Prop} {k : Nat} {R R' : List Value → α → Prop} {v : Value} {l : List α}
    (hr : ∀ cs a, a ∈ l → R cs a → R' cs a) (hS : ∀ b, S b → b < w.heap.size → S' b) (hk : Keeps S w w') (h : Row w S k R v l) : Row w' S' k R' v l := by
  obtain ⟨A, cap, hv, h⟩ := h
  refine ⟨A, cap, hv, fun h0 => ?_⟩
  obtain ⟨b, o, hA, hb, hlt, hc⟩ := h h0
  refine ⟨b, o, hA, hS b hb hlt, (hk b hb hlt).1, fun i hi => ?_⟩
  obtain ⟨cs, hR, hcs⟩ := hc i hi
  exact ⟨cs, hr _ _ (List.getElem_mem hi) hR, fun j hj => (hk b hb hlt).2 _ _ (hcs j hj)⟩

theorem Row.nil {α : Type} (w : World) (S : Nat → Prop) (k : Nat) (R : List Value → α → Prop) : Row w S k R (.slice none 0 0) ([] : List α) :=
  ⟨none, 0, rfl, fun h => absurd h (by simp)⟩

/-- A slice of strings. -/
def Strs (w : World) (S : Nat → Prop) (v : Value) (l : List ByteArray) : Prop := Row w S 1 (fun cs s => cs = [.string s]) v l

theorem Strs.mono {w w' : World} {S S' : Nat → Prop} {v : Value} {l : List ByteArray} (hS : ∀ b, S b → b < w.heap.size → S' b) (hk : Keeps S w w') (h : Strs w S v l) : Strs w' S' v l :=
  Row.mono (fun _ _ _ h => h) hS hk h

/-- The cells of a node of the reference. -/
def SN (w : World) (S : Nat → Prop) : Nat → List Value → Nd → Prop
  | 0, _, _ => False
  | d + 1, cs, n => ∃ nv dv kv ev, cs = [.int .i64 n.kind, .string n.text, .string n.value, nv, .bool n.tru, .bool n.assign, dv, kv, ev, .bool n.hasElse, .int .i64 n.num, .bool n.exact] ∧
      Strs w S nv n.names ∧ Row w S 12 (SN w S d) dv n.decl ∧ Row w S 12 (SN w S d) kv n.kids ∧ Row w S 12 (SN w S d) ev n.els

/-- The cells of a node of the thin package (its number is zero). -/
def IN (w : World) (S : Nat → Prop) : Nat → List Value → Nd → Prop
  | 0, _, _ => False
  | d + 1, cs, n => ∃ nv dv kv ev, cs = [.int .i64 n.kind, .string n.text, .string n.value, nv, .bool n.tru, .bool n.assign, dv, kv, ev, .bool n.hasElse, .bool false, .bool false, .bool false, .bool false, .int .i64 0, .int .u64 0, .int .u64 0] ∧
      Strs w S nv n.names ∧ Row w S 17 (IN w S d) dv n.decl ∧ Row w S 17 (IN w S d) kv n.kids ∧ Row w S 17 (IN w S d) ev n.els

theorem SN.mono {w w' : World} {S S' : Nat → Prop} (hS : ∀ b, S b → b < w.heap.size → S' b) (hk : Keeps S w w') : ∀ d cs n, SN w S d cs n → SN w' S' d cs n
  | 0, _, _, h => h
  | d + 1, _, n, h => by
    obtain ⟨nv, dv, kv, ev, e, h1, h2, h3, h4⟩ := h
    exact ⟨nv, dv, kv, ev, e, h1.mono hS hk, h2.mono (fun cs a _ => SN.mono hS hk d cs a) hS hk, h3.mono (fun cs a _ => SN.mono hS hk d cs a) hS hk, h4.mono (fun cs a _ => SN.mono hS hk d cs a) hS hk⟩

theorem IN.mono {w w' : World} {S S' : Nat → Prop} (hS : ∀ b, S b → b < w.heap.size → S' b) (hk : Keeps S w w') : ∀ d cs n, IN w S d cs n → IN w' S' d cs n
  | 0, _, _, h => h
  | d + 1, _, n, h => by
    obtain ⟨nv, dv, kv, ev, e, h1, h2, h3, h4⟩ := h
    exact ⟨nv, dv, kv, ev, e, h1.mono hS hk, h2.mono (fun cs a _ => IN.mono hS hk d cs a) hS hk, h3.mono (fun cs a _ => IN.mono hS hk d cs a) hS hk, h4.mono (fun cs a _ => IN.mono hS hk d cs a) hS hk⟩

theorem SN.length {w : World} {S : Nat → Prop} : ∀ {d cs n}, SN w S d cs n → cs.length = 12
  | 0, _, _, h => h.elim
  | _ + 1, _, _, h => by obtain ⟨_, _, _, _, rfl, _⟩ := h; rfl
theorem IN.length {w : World} {S : Nat → Prop} : ∀ {d cs n}, IN w S d cs n → cs.length = 17
  | 0, _, _, h => h.elim
  | _ + 1, _, _, h => by obtain ⟨_, _, _, _, rfl, _⟩ := h; rfl

theorem Row.form {α : Type} {w : World} {S : Nat → Prop} {k : Nat} {R : List Value → α → Prop} {v : Value} {l : List α} (h : Row w S k R v l) : ∃ A cap, v = .slice A l.length cap :=
  let ⟨A, cap, e, _⟩ := h; ⟨A, cap, e⟩

/-- The cells of a node, written out. -/
theorem SN.form {w : World} {S : Nat → Prop} : ∀ {d cs p}, SN w S d cs p → ∃ A1 d1 A2 d2 A3 d3 A4 d4, cs = [.int .i64 p.kind, .string p.text, .string p.value, .slice A1 p.names.length d1, .bool p.tru, .bool p.assign, .slice A2 p.decl.length d2, .slice A3 p.kids.length d3, .slice A4 p.els.length d4, .bool p.hasElse, .int .i64 p.num, .bool p.exact]
  | 0, _, _, h => h.elim
  | _ + 1, _, _, h => by
    obtain ⟨nv, dv, kv, ev, rfl, h1, h2, h3, h4⟩ := h
    obtain ⟨A1, c1, rfl⟩ := h1.form
    obtain ⟨A2, c2, rfl⟩ := h2.form
    obtain ⟨A3, c3, rfl⟩ := h3.form
    obtain ⟨A4, c4, rfl⟩ := h4.form
    exact ⟨A1, c1, A2, c2, A3, c3, A4, c4, rfl⟩

/-- The element of a row of nodes that a round reads, its cells one by one. -/
theorem SN.at {w : World} {S : Nat → Prop} {d : Nat} {A : Option Addr} {cap : Nat} {l : List Nd} (h : Row w S 12 (SN w S d) (.slice A l.length cap) l) {k : Nat} (hk : k < l.length) :
    ∃ p b o A1 d1 A2 d2 A3 d3 A4 d4, l[k] = p ∧ A = some ⟨b, o, none⟩ ∧ S b ∧ b < w.heap.size ∧ SN w S d [.int .i64 p.kind, .string p.text, .string p.value, .slice A1 p.names.length d1, .bool p.tru, .bool p.assign, .slice A2 p.decl.length d2, .slice A3 p.kids.length d3, .slice A4 p.els.length d4, .bool p.hasElse, .int .i64 p.num, .bool p.exact] p ∧
      w.cell? ⟨b, o + k * 12, none⟩ = some (.int .i64 p.kind) ∧ w.cell? ⟨b, o + k * 12 + 1, none⟩ = some (.string p.text) ∧ w.cell? ⟨b, o + k * 12 + 2, none⟩ = some (.string p.value) ∧ w.cell? ⟨b, o + k * 12 + 3, none⟩ = some (.slice A1 p.names.length d1) ∧ w.cell? ⟨b, o + k * 12 + 4, none⟩ = some (.bool p.tru) ∧ w.cell? ⟨b, o + k * 12 + 5, none⟩ = some (.bool p.assign) ∧ w.cell? ⟨b, o + k * 12 + 6, none⟩ = some (.slice A2 p.decl.length d2) ∧ w.cell? ⟨b, o + k * 12 + 7, none⟩ = some (.slice A3 p.kids.length d3) ∧ w.cell? ⟨b, o + k * 12 + 8, none⟩ = some (.slice A4 p.els.length d4) ∧ w.cell? ⟨b, o + k * 12 + 9, none⟩ = some (.bool p.hasElse) ∧ w.cell? ⟨b, o + k * 12 + 10, none⟩ = some (.int .i64 p.num) ∧ w.cell? ⟨b, o + k * 12 + 11, none⟩ = some (.bool p.exact) := by
  obtain ⟨A', cap', hv, h⟩ := h
  injection hv with hA _ _
  subst hA
  obtain ⟨b, o, rfl, hb, hlt, h⟩ := h (by omega)
  obtain ⟨cs, hR, hc⟩ := h k hk
  obtain ⟨A1, d1, A2, d2, A3, d3, A4, d4, rfl⟩ := hR.form
  exact ⟨l[k], b, o, A1, d1, A2, d2, A3, d3, A4, d4, rfl, rfl, hb, hlt, hR, hc 0 (by simp), hc 1 (by simp), hc 2 (by simp), hc 3 (by simp), hc 4 (by simp), hc 5 (by simp), hc 6 (by simp), hc 7 (by simp), hc 8 (by simp), hc 9 (by simp), hc 10 (by simp), hc 11 (by simp)⟩

/-- The cells of a node, written out. -/
theorem IN.form {w : World} {S : Nat → Prop} : ∀ {d cs p}, IN w S d cs p → ∃ A1 d1 A2 d2 A3 d3 A4 d4, cs = [.int .i64 p.kind, .string p.text, .string p.value, .slice A1 p.names.length d1, .bool p.tru, .bool p.assign, .slice A2 p.decl.length d2, .slice A3 p.kids.length d3, .slice A4 p.els.length d4, .bool p.hasElse, .bool false, .bool false, .bool false, .bool false, .int .i64 0, .int .u64 0, .int .u64 0]
  | 0, _, _, h => h.elim
  | _ + 1, _, _, h => by
    obtain ⟨nv, dv, kv, ev, rfl, h1, h2, h3, h4⟩ := h
    obtain ⟨A1, c1, rfl⟩ := h1.form
    obtain ⟨A2, c2, rfl⟩ := h2.form
    obtain ⟨A3, c3, rfl⟩ := h3.form
    obtain ⟨A4, c4, rfl⟩ := h4.form
    exact ⟨A1, c1, A2, c2, A3, c3, A4, c4, rfl⟩

/-- The element of a row of nodes that a round reads, its cells one by one. -/
theorem IN.at {w : World} {S : Nat → Prop} {d : Nat} {A : Option Addr} {cap : Nat} {l : List Nd} (h : Row w S 17 (IN w S d) (.slice A l.length cap) l) {k : Nat} (hk : k < l.length) :
    ∃ p b o A1 d1 A2 d2 A3 d3 A4 d4, l[k] = p ∧ A = some ⟨b, o, none⟩ ∧ S b ∧ b < w.heap.size ∧ IN w S d [.int .i64 p.kind, .string p.text, .string p.value, .slice A1 p.names.length d1, .bool p.tru, .bool p.assign, .slice A2 p.decl.length d2, .slice A3 p.kids.length d3, .slice A4 p.els.length d4, .bool p.hasElse, .bool false, .bool false, .bool false, .bool false, .int .i64 0, .int .u64 0, .int .u64 0] p ∧
      w.cell? ⟨b, o + k * 17, none⟩ = some (.int .i64 p.kind) ∧ w.cell? ⟨b, o + k * 17 + 1, none⟩ = some (.string p.text) ∧ w.cell? ⟨b, o + k * 17 + 2, none⟩ = some (.string p.value) ∧ w.cell? ⟨b, o + k * 17 + 3, none⟩ = some (.slice A1 p.names.length d1) ∧ w.cell? ⟨b, o + k * 17 + 4, none⟩ = some (.bool p.tru) ∧ w.cell? ⟨b, o + k * 17 + 5, none⟩ = some (.bool p.assign) ∧ w.cell? ⟨b, o + k * 17 + 6, none⟩ = some (.slice A2 p.decl.length d2) ∧ w.cell? ⟨b, o + k * 17 + 7, none⟩ = some (.slice A3 p.kids.length d3) ∧ w.cell? ⟨b, o + k * 17 + 8, none⟩ = some (.slice A4 p.els.length d4) ∧ w.cell? ⟨b, o + k * 17 + 9, none⟩ = some (.bool p.hasElse) ∧ w.cell? ⟨b, o + k * 17 + 10, none⟩ = some (.bool false) ∧ w.cell? ⟨b, o + k * 17 + 11, none⟩ = some (.bool false) ∧ w.cell? ⟨b, o + k * 17 + 12, none⟩ = some (.bool false) ∧ w.cell? ⟨b, o + k * 17 + 13, none⟩ = some (.bool false) ∧ w.cell? ⟨b, o + k * 17 + 14, none⟩ = some (.int .i64 0) ∧ w.cell? ⟨b, o + k * 17 + 15, none⟩ = some (.int .u64 0) ∧ w.cell? ⟨b, o + k * 17 + 16, none⟩ = some (.int .u64 0) := by
  obtain ⟨A', cap', hv, h⟩ := h
  injection hv with hA _ _
  subst hA
  obtain ⟨b, o, rfl, hb, hlt, h⟩ := h (by omega)
  obtain ⟨cs, hR, hc⟩ := h k hk
  obtain ⟨A1, d1, A2, d2, A3, d3, A4, d4, rfl⟩ := hR.form
  exact ⟨l[k], b, o, A1, d1, A2, d2, A3, d3, A4, d4, rfl, rfl, hb, hlt, hR, hc 0 (by simp), hc 1 (by simp), hc 2 (by simp), hc 3 (by simp), hc 4 (by simp), hc 5 (by simp), hc 6 (by simp), hc 7 (by simp), hc 8 (by simp), hc 9 (by simp), hc 10 (by simp), hc 11 (by simp), hc 12 (by simp), hc 13 (by simp), hc 14 (by simp), hc 15 (by simp), hc 16 (by simp)⟩

/-- The string of a row of strings that a round reads. -/
theorem Strs.at {w : World} {S : Nat → Prop} {A : Option Addr} {cap : Nat} {l : List ByteArray} (h : Strs w S (.slice A l.length cap) l) {k : Nat} (hk : k < l.length) :
    ∃ b o, A = some ⟨b, o, none⟩ ∧ S b ∧ b < w.heap.size ∧ w.cell? ⟨b, o + k, none⟩ = some (.string l[k]) := by
  obtain ⟨A', cap', hv, h⟩ := h
  injection hv with hA _ _
  subst hA
  obtain ⟨b, o, rfl, hb, hlt, h⟩ := h (by omega)
  obtain ⟨cs, rfl, hc⟩ := h k hk
  have := hc 0 (by simp)
  simp only [Nat.mul_one, Nat.add_zero, List.getElem_cons_zero] at this
  exact ⟨b, o, rfl, hb, hlt, this⟩

/-! ### Bulk -/

/-- What a node holds: its values and letters, counted to depth d. -/
def wt : Nat → Nd → Nat
  | 0, _ => 0
  | d + 1, n => 1 + n.text.size + n.value.size + (n.names.map fun s => s.size + 1).sum + (n.decl.map (wt d)).sum + (n.kids.map (wt d)).sum + (n.els.map (wt d)).sum

theorem sum_le_of_mem {α : Type} (f : α → Nat) {a : α} {l : List α} (h : a ∈ l) : f a ≤ (l.map f).sum := by
  induction l with
  | nil => cases h
  | cons x r ih =>
    simp only [List.map_cons, List.sum_cons]
    rcases List.mem_cons.1 h with e | e
    · subst e; omega
    · have := ih e; omega

theorem length_le_sum {α : Type} (f : α → Nat) (l : List α) (h : ∀ a ∈ l, 1 ≤ f a) : l.length ≤ (l.map f).sum := by
  induction l with
  | nil => simp
  | cons x r ih =>
    have h1 := h x (by simp)
    have h2 := ih fun a ha => h a (by simp [ha])
    simp only [List.map_cons, List.sum_cons, List.length_cons]; omega

/-- Small enough. -/
def Sm (d : Nat) (n : Nd) : Prop := wt d n ≤ 1048576
def Sms (d : Nat) (l : List Nd) : Prop := l.length ≤ 1048576 ∧ ∀ a ∈ l, Sm d a

theorem wt_pos {w : World} {S : Nat → Prop} : ∀ {d cs n}, SN w S d cs n → 1 ≤ wt d n
  | 0, _, _, h => h.elim
  | _ + 1, _, _, _ => by simp only [wt]; omega
theorem wt_posI {w : World} {S : Nat → Prop} : ∀ {d cs n}, IN w S d cs n → 1 ≤ wt d n
  | 0, _, _, h => h.elim
  | _ + 1, _, _, _ => by simp only [wt]; omega

theorem Row.all {α : Type} {w : World} {S : Nat → Prop} {k : Nat} {R : List Value → α → Prop} {v : Value} {l : List α} (h : Row w S k R v l) {p : α → Prop} (hp : ∀ cs a, R cs a → p a) : ∀ a ∈ l, p a := by
  intro a ha
  obtain ⟨i, hi, rfl⟩ := List.getElem_of_mem ha
  obtain ⟨A, cap, _, h⟩ := h
  obtain ⟨b, o, _, _, _, h⟩ := h (by omega)
  obtain ⟨cs, hR, _⟩ := h i hi
  exact hp _ _ hR

theorem Sms.of {d : Nat} {l : List Nd} (h : (l.map (wt d)).sum ≤ 1048576) (hp : ∀ a ∈ l, 1 ≤ wt d a) : Sms d l :=
  ⟨Nat.le_trans (length_le_sum _ l hp) h, fun a ha => Nat.le_trans (sum_le_of_mem _ ha) h⟩

/-- The parts of a small node are small. -/
theorem Sm.parts {w : World} {S : Nat → Prop} {d : Nat} {cs : List Value} {n : Nd} (hn : SN w S (d + 1) cs n) (h : Sm (d + 1) n) : Sms d n.decl ∧ Sms d n.kids ∧ Sms d n.els ∧ n.names.length ≤ 1048576 := by
  obtain ⟨_, _, _, _, _, _, h2, h3, h4⟩ := hn
  simp only [Sm, wt] at h
  have := length_le_sum (fun s : ByteArray => s.size + 1) n.names (fun _ _ => by omega)
  exact ⟨.of (by omega) (h2.all fun _ _ => wt_pos), .of (by omega) (h3.all fun _ _ => wt_pos), .of (by omega) (h4.all fun _ _ => wt_pos), by omega⟩
theorem Sm.partsI {w : World} {S : Nat → Prop} {d : Nat} {cs : List Value} {n : Nd} (hn : IN w S (d + 1) cs n) (h : Sm (d + 1) n) : Sms d n.decl ∧ Sms d n.kids ∧ Sms d n.els ∧ n.names.length ≤ 1048576 := by
  obtain ⟨_, _, _, _, _, _, h2, h3, h4⟩ := hn
  simp only [Sm, wt] at h
  have := length_le_sum (fun s : ByteArray => s.size + 1) n.names (fun _ _ => by omega)
  exact ⟨.of (by omega) (h2.all fun _ _ => wt_posI), .of (by omega) (h3.all fun _ _ => wt_posI), .of (by omega) (h4.all fun _ _ => wt_posI), by omega⟩

/-! ### Kinds and shapes -/

def branchK (k : Int) : Bool := k == 9 || k == 14 || k == 18
def operandK (k : Int) : Bool := k == 3 || k == 6 || k == 7 || k == 8 || k == 11 || k == 12 || k == 15 || k == 17
def elementK (k : Int) : Bool := k == 1 || k == 19 || k == 2 || k == 16 || k == 20 || k == 21 || k == 9 || k == 14 || k == 18

def leafK (k : Int) : Bool := k == 1 || k == 19 || k == 3 || k == 6 || k == 8 || k == 11 || k == 12 || k == 15 || k == 20 || k == 21 || k == 7 || k == 17

/-- A field and a chain have a name. -/
def NmK (n : Nd) : Prop := n.kind = 7 ∨ n.kind = 4 → 0 < n.names.length
theorem nmK_no {n : Nd} (h : ¬ n.kind = 7) (h' : ¬ n.kind = 4) : NmK n := fun e => by rcases e with e | e <;> contradiction

/-- The parts of a node fit its kind (those below it aside). -/
def ShpK (n : Nd) : Prop :=
  (leafK n.kind = true ∧ n.kids = [] ∧ NmK n) ∨
  (n.kind = 2 ∧ ∃ p, n.kids = [p] ∧ p.kind = 13) ∨
  (n.kind = 16 ∧ (n.kids = [] ∨ ∃ p, n.kids = [p] ∧ p.kind = 13)) ∨
  (n.kind = 4 ∧ NmK n ∧ ∃ p, n.kids = [p] ∧ (operandK p.kind = true ∨ p.kind = 13)) ∨
  (n.kind = 5 ∧ ∀ p ∈ n.kids, operandK p.kind = true ∨ p.kind = 13 ∨ p.kind = 4) ∨
  (n.kind = 13 ∧ (∀ p ∈ n.kids, p.kind = 5) ∧ ∀ p ∈ n.decl, p.kind = 17) ∨
  (n.kind = 10 ∧ ∀ p ∈ n.kids, elementK p.kind = true) ∨
  ((n.kind = 9 ∨ n.kind = 14 ∨ n.kind = 18) ∧ ∃ p l, n.kids = [p, l] ∧ p.kind = 13 ∧ l.kind = 10 ∧ ((n.hasElse = false ∧ n.els = []) ∨ (n.hasElse = true ∧ ∃ e, n.els = [e] ∧ e.kind = 10)))

/-- The parts of a node fit its kind, and so do those of the nodes below it. -/
def Shp : Nat → Nd → Prop
  | 0, _ => False
  | d + 1, n => (∀ k ∈ n.decl, Shp d k) ∧ (∀ k ∈ n.kids, Shp d k) ∧ (∀ k ∈ n.els, Shp d k) ∧ ShpK n

end Go.Proofs.YtiogfkpclkkoaaaGreat
