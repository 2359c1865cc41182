/-
  What the writers of the nodes share: the builder, the tree's delimiters, which method a node has.
-/
import Derived.Test.YtiogfkpclkkoaaaGreatSb
import Derived.Test.YtiogfkpclkkoaaaGreatFactsY
import Derived.Test.YtiogfkpclkkoaaaGreatFactsN
import Derived.Test.YtiogfkpclkkoaaaGreatPr
set_option linter.unusedVariables false
set_option linter.unusedSimpArgs false
namespace Go.Proofs.YtiogfkpclkkoaaaGreat
open Go.RowKit

/-- The writer of a node of a kind. -/
def wrF (k : Int) : FuncId :=
  if k = 1 then 51 else if k = 2 then 113 else if k = 3 then 64 else if k = 4 then 142 else if k = 5 then 109 else
  if k = 6 then 69 else if k = 7 then 73 else if k = 8 then 78 else if k = 9 then 146 else if k = 10 then 137 else
  if k = 11 then 83 else if k = 12 then 88 else if k = 13 then 108 else if k = 14 then 146 else if k = 15 then 92 else
  if k = 16 then 117 else if k = 17 then 96 else if k = 18 then 146 else if k = 19 then 56 else if k = 20 then 100 else 104
/-- What gives a node's text. -/
def strF (k : Int) : FuncId :=
  if k = 1 then 48 else if k = 2 then 111 else if k = 3 then 62 else if k = 4 then 140 else if k = 5 then 132 else
  if k = 6 then 66 else if k = 7 then 71 else if k = 8 then 76 else if k = 9 then 144 else if k = 10 then 135 else
  if k = 11 then 80 else if k = 12 then 85 else if k = 13 then 106 else if k = 14 then 144 else if k = 15 then 90 else
  if k = 16 then 115 else if k = 17 then 94 else if k = 18 then 144 else if k = 19 then 54 else if k = 20 then 98 else 102

def KindOk (k : Int) : Prop := 1 ≤ k ∧ k ≤ 21
theorem KindOk.cases {k : Int} (h : KindOk k) {q : Int → Prop} (h1 : q 1) (h2 : q 2) (h3 : q 3) (h4 : q 4) (h5 : q 5) (h6 : q 6) (h7 : q 7) (h8 : q 8) (h9 : q 9) (h10 : q 10) (h11 : q 11) (h12 : q 12) (h13 : q 13) (h14 : q 14) (h15 : q 15) (h16 : q 16) (h17 : q 17) (h18 : q 18) (h19 : q 19) (h20 : q 20) (h21 : q 21) : q k := by
  obtain ⟨ha, hb⟩ := h
  have : k = 1 ∨ k = 2 ∨ k = 3 ∨ k = 4 ∨ k = 5 ∨ k = 6 ∨ k = 7 ∨ k = 8 ∨ k = 9 ∨ k = 10 ∨ k = 11 ∨ k = 12 ∨ k = 13 ∨ k = 14 ∨ k = 15 ∨ k = 16 ∨ k = 17 ∨ k = 18 ∨ k = 19 ∨ k = 20 ∨ k = 21 := by omega
  rcases this with rfl | rfl | rfl | rfl | rfl | rfl | rfl | rfl | rfl | rfl | rfl | rfl | rfl | rfl | rfl | rfl | rfl | rfl | rfl | rfl | rfl <;> assumption

theorem method_wr {k : Int} (h : KindOk k) (b : Nat) (w : World) : (method 299 (ptrT k) (.pointer (some ⟨b, 0, none⟩)) "templateparse/pub/tparse.writeTo").run Tryz.prog w = .ok (wrF k, .pointer (some ⟨b, 0, none⟩)) w :=
  h.cases (q := fun k => (method 299 (ptrT k) (.pointer (some ⟨b, 0, none⟩)) "templateparse/pub/tparse.writeTo").run Tryz.prog w = .ok (wrF k, .pointer (some ⟨b, 0, none⟩)) w) (by kernel_rfl) (by kernel_rfl) (by kernel_rfl) (by kernel_rfl) (by kernel_rfl) (by kernel_rfl) (by kernel_rfl) (by kernel_rfl) (by kernel_rfl) (by kernel_rfl) (by kernel_rfl) (by kernel_rfl) (by kernel_rfl) (by kernel_rfl) (by kernel_rfl) (by kernel_rfl) (by kernel_rfl) (by kernel_rfl) (by kernel_rfl) (by kernel_rfl) (by kernel_rfl)
theorem method_str {k : Int} (h : KindOk k) (b : Nat) (w : World) : (method 299 (ptrT k) (.pointer (some ⟨b, 0, none⟩)) "String").run Tryz.prog w = .ok (strF k, .pointer (some ⟨b, 0, none⟩)) w :=
  h.cases (q := fun k => (method 299 (ptrT k) (.pointer (some ⟨b, 0, none⟩)) "String").run Tryz.prog w = .ok (strF k, .pointer (some ⟨b, 0, none⟩)) w) (by kernel_rfl) (by kernel_rfl) (by kernel_rfl) (by kernel_rfl) (by kernel_rfl) (by kernel_rfl) (by kernel_rfl) (by kernel_rfl) (by kernel_rfl) (by kernel_rfl) (by kernel_rfl) (by kernel_rfl) (by kernel_rfl) (by kernel_rfl) (by kernel_rfl) (by kernel_rfl) (by kernel_rfl) (by kernel_rfl) (by kernel_rfl) (by kernel_rfl) (by kernel_rfl)

/-- A function of the program that has a body is entered. -/
def HasBody (f : FuncId) : Prop := ∀ (args : Array Value) (w : World), (callFunc f args).run Tryz.prog w = .ok (.enter f args) w
theorem HasBody.of {f : FuncId} {fn : Func} {c : Code} (hf : Tryz.prog.funcs[f]? = some fn) (hname : (fn.name == "runtime.NumGoroutine") = false) (hb : fn.body = some c) : HasBody f := by
  intro args w
  have h1 : fn.name ≠ "runtime.NumGoroutine" := by simpa using hname
  simp [callFunc, hf, h1, hb, mark]
theorem hasBody_wr {k : Int} (h : KindOk k) : HasBody (wrF k) :=
  h.cases (q := fun k => HasBody (wrF k)) (.of Tryz.func51 (by kernel_rfl) rfl) (.of Tryz.func113 (by kernel_rfl) rfl) (.of Tryz.func64 (by kernel_rfl) rfl) (.of Tryz.func142 (by kernel_rfl) rfl) (.of Tryz.func109 (by kernel_rfl) rfl) (.of Tryz.func69 (by kernel_rfl) rfl) (.of Tryz.func73 (by kernel_rfl) rfl) (.of Tryz.func78 (by kernel_rfl) rfl) (.of Tryz.func146 (by kernel_rfl) rfl) (.of Tryz.func137 (by kernel_rfl) rfl)
    (.of Tryz.func83 (by kernel_rfl) rfl) (.of Tryz.func88 (by kernel_rfl) rfl) (.of Tryz.func108 (by kernel_rfl) rfl) (.of Tryz.func146 (by kernel_rfl) rfl) (.of Tryz.func92 (by kernel_rfl) rfl) (.of Tryz.func117 (by kernel_rfl) rfl) (.of Tryz.func96 (by kernel_rfl) rfl) (.of Tryz.func146 (by kernel_rfl) rfl) (.of Tryz.func56 (by kernel_rfl) rfl) (.of Tryz.func100 (by kernel_rfl) rfl) (.of Tryz.func104 (by kernel_rfl) rfl)
theorem hasBody_str {k : Int} (h : KindOk k) : HasBody (strF k) :=
  h.cases (q := fun k => HasBody (strF k)) (.of Tryz.func48 (by kernel_rfl) rfl) (.of Tryz.func111 (by kernel_rfl) rfl) (.of Tryz.func62 (by kernel_rfl) rfl) (.of Tryz.func140 (by kernel_rfl) rfl) (.of Tryz.func132 (by kernel_rfl) rfl) (.of Tryz.func66 (by kernel_rfl) rfl) (.of Tryz.func71 (by kernel_rfl) rfl) (.of Tryz.func76 (by kernel_rfl) rfl) (.of Tryz.func144 (by kernel_rfl) rfl) (.of Tryz.func135 (by kernel_rfl) rfl)
    (.of Tryz.func80 (by kernel_rfl) rfl) (.of Tryz.func85 (by kernel_rfl) rfl) (.of Tryz.func106 (by kernel_rfl) rfl) (.of Tryz.func144 (by kernel_rfl) rfl) (.of Tryz.func90 (by kernel_rfl) rfl) (.of Tryz.func115 (by kernel_rfl) rfl) (.of Tryz.func94 (by kernel_rfl) rfl) (.of Tryz.func144 (by kernel_rfl) rfl) (.of Tryz.func54 (by kernel_rfl) rfl) (.of Tryz.func98 (by kernel_rfl) rfl) (.of Tryz.func102 (by kernel_rfl) rfl)

theorem PBody.kindOk {w : World} {S : Nat → Prop} {trv : Value} {sub : Nat → Nd → Prop} {n : Nd} {E : TypeId} {cs : Array Value} (h : PBody w S trv sub n E cs) : KindOk n.kind := by
  cases h with
  | branch0 h => rcases h with ⟨h, _⟩ | ⟨h, _⟩ | ⟨h, _⟩ <;> (rw [h]; exact ⟨by decide, by decide⟩)
  | branch1 h => rcases h with ⟨h, _⟩ | ⟨h, _⟩ | ⟨h, _⟩ <;> (rw [h]; exact ⟨by decide, by decide⟩)
  | _ h => (rw [h]; exact ⟨by decide, by decide⟩)
theorem PN.kindOk {w : World} {base : Nat} {S : Nat → Prop} {tr : Value → Prop} : ∀ {d b : Nat} {n : Nd}, PN w base S tr d b n → KindOk n.kind
  | 0, _, _, h => h.elim
  | _ + 1, _, _, h => by obtain ⟨_, _, _, _, _, _, _, h⟩ := h; exact h.kindOk

/-! ### The builder and the delimiters -/

/-- Builder sb holds l; below B lies what the writers read; at bt the tree with the usual delimiters. -/
def Env (B bt sb : Nat) (l : List UInt8) (w : World) : Prop :=
  SB B sb l w ∧ B ≤ w.heap.size ∧ bt < B ∧ w.cell? ⟨bt, 25, none⟩ = some (.string ⟨#[123, 123]⟩) ∧ w.cell? ⟨bt, 26, none⟩ = some (.string ⟨#[125, 125]⟩)
theorem Env.later {B bt sb : Nat} {l l' : List UInt8} {w w' : World} (h : Env B bt sb l w) (hs : SB B sb l' w') (hb : Below B w w') : Env B bt sb l' w' := by
  obtain ⟨_, h2, h3, h4, h5⟩ := h
  exact ⟨hs, Nat.le_trans h2 hb.size, h3, (hb.cell (p := ⟨bt, 25, none⟩) h3).trans h4, (hb.cell (p := ⟨bt, 26, none⟩) h3).trans h5⟩
theorem SB.of_heap {B sb : Nat} {l : List UInt8} {w w' : World} (h : SB B sb l w) (e : w'.heap = w.heap) : SB B sb l w' := by
  rcases h with ⟨hB, v, hb, hown, hne⟩ | ⟨hB, v, hb, hown, hne⟩
  · refine Or.inl ⟨hB, v, by rw [e]; exact hb, ?_, hne⟩
    unfold World.ownsRowF at hown ⊢
    rw [e]; exact hown
  · refine Or.inr ⟨hB, v, by rw [e]; exact hb, ?_, hne⟩
    unfold World.ownsRowF at hown ⊢
    rw [e]; exact hown

def EnvPost (B bt sb : Nat) (v : Value) (w : World) (l : List UInt8) (e : Ending) (w' : World) : Prop := e = .returned v ∧ Env B bt sb l w' ∧ Below B w w'
def WrPost (B bt sb : Nat) (w : World) (l : List UInt8) (e : Ending) (w' : World) : Prop := e = .returned (.tuple #[]) ∧ Env B bt sb l w' ∧ Below B w w'

theorem by'_len (s : ByteArray) : (by' s).length = s.size := by simp [by']

theorem env_string {B bt sb : Nat} {l : List UInt8} {w : World} (h : Env B bt sb l w) (s : ByteArray) (x : List UInt8) (hx : s.data.toList = x) (hlen : l.length + x.length ≤ 140737488355328) :
    Calls Tryz.prog 58 #[.pointer (some ⟨sb, 0, none⟩), .string s] w (EnvPost B bt sb (.tuple #[.int .i64 s.size, .nilIface]) w (l ++ x)) := by
  subst hx
  refine (sb_string B sb l s w h.1 (by simpa using hlen) h.2.1).mono ?_
  rintro e w' ⟨he, hs, hb⟩
  exact ⟨he, h.later hs hb, hb⟩
theorem env_byte {B bt sb : Nat} {l : List UInt8} {w : World} (h : Env B bt sb l w) (c : UInt8) (z : Int) (hz : z = c.toNat) (hlen : l.length + 1 ≤ 140737488355328) :
    Calls Tryz.prog 74 #[.pointer (some ⟨sb, 0, none⟩), .int .u8 z] w (EnvPost B bt sb .nilIface w (l ++ [c])) := by
  subst hz
  refine (sb_byte B sb l c w h.1 hlen h.2.1).mono ?_
  rintro e w' ⟨he, hs, hb⟩
  exact ⟨he, h.later hs hb, hb⟩

theorem node_later {B b : Nat} {w w' : World} {x : Obj} (hh : w.heap[b]? = some x) (hB : b < B) (hb : Below B w w') : w'.heap[b]? = some x := (hb.block b hB).trans hh
theorem PN.low {B d b base : Nat} {tr : Value → Prop} {w w' : World} {n : Nd} (h : PN w base (· < B) tr d b n) (hb : Below B w w') : PN w' base (· < B) tr d b n :=
  PN.mono (Nat.le_refl _) (fun _ h _ => h) (fun b hb' _ => hb.block b hb') d b n h
theorem Strs.low {B : Nat} {w w' : World} {v : Value} {l : List ByteArray} (h : Strs w (· < B) v l) (hb : Below B w w') : Strs w' (· < B) v l :=
  h.mono (fun _ h _ => h) (Keeps.of_below' hb)
theorem RowP.low {B : Nat} {w w' : World} {E : TypeId} {f : Nd → Nat → Value} {base d : Nat} {tr : Value → Prop} {v : Value} {l : List Nd} (h : RowP w (· < B) E f (PN w base (· < B) tr d) v l) (hb : Below B w w') : RowP w' (· < B) E f (PN w' base (· < B) tr d) v l :=
  h.mono (fun _ h _ => h) (fun b hb' _ => hb.block b hb') (fun _ _ h => h.low hb)
theorem RowP.at {w : World} {S : Nat → Prop} {E : TypeId} {f : Nd → Nat → Value} {sub : Nat → Nd → Prop} {A : Option Addr} {c : Nat} {l : List Nd} (h : RowP w S E f sub (.slice A l.length c) l) {k : Nat} (hk : k < l.length) :
    ∃ g b p, l[k] = p ∧ A = some ⟨g, 0, none⟩ ∧ w.cell? ⟨g, k, none⟩ = some (f p b) ∧ sub b p := by
  rcases h with ⟨_, h0⟩ | ⟨g, cap, cur, e, _, hh, hc⟩
  · subst h0; simp at hk
  · injection e with e1 e2 e3
    obtain ⟨b, h1, h2⟩ := hc k hk
    exact ⟨g, b, l[k], rfl, e1, by rw [cell_of_heap' hh]; exact h1, h2⟩

/-- The writer of a node at depth d. -/
def WrAt (B bt sb d : Nat) : Prop := ∀ b n l w, PN w 0 (· < B) (TrIs (some ⟨bt, 0, none⟩)) d b n → Nmd d n → Sm d n → Env B bt sb l w → l.length + (pr d n).length ≤ 140737488355328 →
  Calls Tryz.prog (wrF n.kind) #[.pointer (some ⟨b, 0, none⟩), .pointer (some ⟨sb, 0, none⟩)] w (WrPost B bt sb w (l ++ pr d n))

end Go.Proofs.YtiogfkpclkkoaaaGreat
