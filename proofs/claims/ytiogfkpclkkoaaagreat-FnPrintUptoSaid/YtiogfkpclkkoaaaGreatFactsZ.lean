/-
  What parse.zzTree does to memory: in node blocks the field of the tree turns, nothing else does.
-/
import Derived.Test.YtiogfkpclkkoaaaGreatFactsB
import Derived.Test.YtiogfkpclkkoaaaGreatFactsR
set_option linter.unusedVariables false
set_option linter.unusedSimpArgs false
namespace Go.Proofs.YtiogfkpclkkoaaaGreat
open Go.RowKit

/-- Where the field of the tree lies in a node block of a type. -/
def triOf (E : TypeId) : Option Nat :=
  if E = 87 ∨ E = 89 then some 0 else
  if E = 56 ∨ E = 59 ∨ E = 62 ∨ E = 65 ∨ E = 68 ∨ E = 71 ∨ E = 73 ∨ E = 79 ∨ E = 82 ∨ E = 84 ∨
     E = 95 ∨ E = 98 ∨ E = 138 ∨ E = 105 ∨ E = 142 ∨ E = 111 ∨ E = 118 ∨ E = 120 ∨ E = 122 then some 2 else none

/-- A block as it was, or a node's block of the call's own whose field of the tree is T now. -/
def TrBlock (base : Nat) (T : Option Addr) (w w' : World) (k : Nat) : Prop :=
  w'.heap[k]? = w.heap[k]? ∨ (base ≤ k ∧ ∃ E cs i p, triOf E = some i ∧ w.heap[k]? = some (.cells cs E (0, 0)) ∧ cs[i]? = some (.pointer p) ∧ w'.heap[k]? = some (.cells (cs.setIfInBounds i (.pointer T)) E (0, 0)))

/-- In node blocks from 'base' on the field of the tree is T now, or what it was; nothing else has turned. -/
def TrStep (base : Nat) (T : Option Addr) (w w' : World) : Prop :=
  Below base w w' ∧ w'.heap.size = w.heap.size ∧ ∀ k, TrBlock base T w w' k

theorem TrStep.refl (base : Nat) (T : Option Addr) (w : World) : TrStep base T w w := ⟨Below.refl _ _, rfl, fun _ => Or.inl rfl⟩
theorem TrStep.trans {base : Nat} {T : Option Addr} {a b c : World} (h : TrStep base T a b) (g : TrStep base T b c) : TrStep base T a c := by
  refine ⟨h.1.trans g.1, g.2.1.trans h.2.1, fun k => ?_⟩
  rcases h.2.2 k with h1 | ⟨hb, E, cs, i, p, ht, h1, h2, h3⟩
  · rcases g.2.2 k with g1 | ⟨gb, E, cs, i, p, ht, g1, g2, g3⟩
    · exact Or.inl (g1.trans h1)
    · exact Or.inr ⟨gb, E, cs, i, p, ht, h1 ▸ g1, g2, g3⟩
  · rcases g.2.2 k with g1 | ⟨gb, E', cs', i', p', ht', g1, g2, g3⟩
    · exact Or.inr ⟨hb, E, cs, i, p, ht, h1, h2, g1.trans h3⟩
    · have e := h3.symm.trans g1
      injection e with e
      injection e with e1 e2 e3
      subst e2
      obtain rfl : i = i' := by rw [ht] at ht'; exact Option.some.inj ht'
      refine Or.inr ⟨hb, E, cs, i, p, ht, h1, h2, ?_⟩
      rw [g3, ← e1]
      simp

theorem TrStep.keeps {base : Nat} {T : Option Addr} {w w' : World} (h : TrStep base T w w') {b o : Nat} {v : Value} (hv : w.cell? ⟨b, o, none⟩ = some v) (hp : ∀ p, v ≠ .pointer p) : w'.cell? ⟨b, o, none⟩ = some v := by
  rcases h.2.2 b with h1 | ⟨_, E, cs, i, p, _, h1, h2, h3⟩
  · exact (World.cell?_of_block (a := ⟨b, o, none⟩) h1).trans hv
  · have hc : cs[o]? = some v := by rw [← hv]; simp [World.cell?, h1]
    have hne : i ≠ o := fun e => hp p (by rw [← e, h2] at hc; exact (Option.some.inj hc).symm)
    simp [World.cell?, h3, Array.getElem?_setIfInBounds, hne, hc]

theorem TrStep.row {base : Nat} {T : Option Addr} {w w' : World} (h : TrStep base T w w') {b : Nat} {cs : Array Value} {E : TypeId} {fr : Nat × Nat} (hv : w.heap[b]? = some (.cells cs E fr)) (hE : triOf E = none) : w'.heap[b]? = some (.cells cs E fr) := by
  rcases h.2.2 b with h1 | ⟨_, E', cs', i, p, ht, h1, h2, h3⟩
  · exact h1.trans hv
  · rw [hv] at h1
    injection h1 with h1
    injection h1 with e1 e2 e3
    rw [← e2, hE] at ht
    cases ht

theorem Strs.step {base : Nat} {T : Option Addr} {w w' : World} (h : TrStep base T w w') {S : Nat → Prop} {v : Value} {l : List ByteArray} (hs : Strs w S v l) : Strs w' S v l := by
  obtain ⟨A, cap, hv, hc⟩ := hs
  refine ⟨A, cap, hv, fun h0 => ?_⟩
  obtain ⟨b, o, hA, hb, hlt, hc⟩ := hc h0
  refine ⟨b, o, hA, hb, by rw [h.2.1]; exact hlt, fun i hi => ?_⟩
  obtain ⟨cs, rfl, hcs⟩ := hc i hi
  exact ⟨_, rfl, fun j hj => h.keeps (hcs j hj) (by intro p; have : j = 0 := by simpa using hj
                                                    subst this; simp)⟩
theorem Bytes.step {base : Nat} {T : Option Addr} {w w' : World} (h : TrStep base T w w') {S : Nat → Prop} {v : Value} {s : ByteArray} (hs : Bytes w S v s) : Bytes w' S v s := by
  obtain ⟨b, cap, hv, hcap, hb, hlt, hc⟩ := hs
  exact ⟨b, cap, hv, hcap, hb, by rw [h.2.1]; exact hlt, fun j hj => h.keeps (hc j hj) (by intro p; simp)⟩
theorem RowP.step {base : Nat} {T : Option Addr} {w w' : World} (h : TrStep base T w w') {S : Nat → Prop} {E : TypeId} {f : Nd → Nat → Value} {sub sub' : Nat → Nd → Prop} {v : Value} {l : List Nd} (hE : triOf E = none)
    (hs : ∀ b n, sub b n → sub' b n) (hr : RowP w S E f sub v l) : RowP w' S E f sub' v l := by
  rcases hr with hr | ⟨g, cap, cur, e, hg, hh, hc⟩
  · exact Or.inl hr
  · refine Or.inr ⟨g, cap, cur, e, hg, h.row hh hE, fun i hi => ?_⟩
    obtain ⟨b, h1, h2⟩ := hc i hi
    exact ⟨b, h1, hs _ _ h2⟩

theorem PBody.step {base : Nat} {T : Option Addr} {w w' : World} (h : TrStep base T w w') {S : Nat → Prop} {trv : Value} {sub sub' : Nat → Nd → Prop} {n : Nd} {E : TypeId} {cs : Array Value} (hs : ∀ b n, sub b n → sub' b n) (hb : PBody w S trv sub n E cs) : PBody w' S trv sub' n E cs := by
  cases hb with
  | text k hb => exact .text k (hb.step h)
  | comment k => exact .comment k
  | bool k => exact .bool k
  | dot k => exact .dot k
  | field k hn => exact .field k (hn.step h)
  | ident k => exact .ident k
  | nil k => exact .nil k
  | num k b1 b2 b3 b4 x y f re im => exact .num k b1 b2 b3 b4 x y f re im
  | str k => exact .str k
  | var k hn => exact .var k (hn.step h)
  | brk k => exact .brk k
  | cont k => exact .cont k
  | action k hk' hp hs' => exact .action k hk' hp (hs _ _ hs')
  | tpl0 k hk' => exact .tpl0 k hk'
  | tpl1 k hk' hp hs' => exact .tpl1 k hk' hp (hs _ _ hs')
  | pipe k hd hk' rd rk => exact .pipe k hd hk' (rd.step h (by decide) hs) (rk.step h (by decide) hs)
  | command k rk => exact .command k (rk.step h (by decide) hs)
  | list k rk => exact .list k (rk.step h (by decide) hs)
  | chain k hk' hs' hn => exact .chain k hk' (hs _ _ hs') (hn.step h)
  | branch0 k hk' he hp hl sp sl => exact .branch0 k hk' he hp hl (hs _ _ sp) (hs _ _ sl)
  | branch1 k hk' he hels hp hl hle sp sl se => exact .branch1 k hk' he hels hp hl hle (hs _ _ sp) (hs _ _ sl) (hs _ _ se)

/-- The field of the tree, in the cells of a node. -/
theorem PBody.tri {w : World} {S : Nat → Prop} {trv : Value} {sub : Nat → Nd → Prop} {n : Nd} {E : TypeId} {cs : Array Value} (hb : PBody w S trv sub n E cs) : ∃ i, triOf E = some i ∧ cs[i]? = some trv ∧ ∀ v, PBody w S v sub n E (cs.setIfInBounds i v) := by
  cases hb with
  | text k hb => exact ⟨2, by decide, rfl, fun v => .text k hb⟩
  | comment k => exact ⟨2, by decide, rfl, fun v => .comment k⟩
  | bool k => exact ⟨2, by decide, rfl, fun v => .bool k⟩
  | dot k => exact ⟨2, by decide, rfl, fun v => .dot k⟩
  | field k hn => exact ⟨2, by decide, rfl, fun v => .field k hn⟩
  | ident k => exact ⟨2, by decide, rfl, fun v => .ident k⟩
  | nil k => exact ⟨2, by decide, rfl, fun v => .nil k⟩
  | num k b1 b2 b3 b4 x y f re im => exact ⟨2, by decide, rfl, fun v => .num k b1 b2 b3 b4 x y f re im⟩
  | str k => exact ⟨2, by decide, rfl, fun v => .str k⟩
  | var k hn => exact ⟨2, by decide, rfl, fun v => .var k hn⟩
  | brk k => exact ⟨0, by decide, rfl, fun v => .brk k⟩
  | cont k => exact ⟨0, by decide, rfl, fun v => .cont k⟩
  | action k hk' hp hs' => exact ⟨2, by decide, rfl, fun v => .action k hk' hp hs'⟩
  | tpl0 k hk' => exact ⟨2, by decide, rfl, fun v => .tpl0 k hk'⟩
  | tpl1 k hk' hp hs' => exact ⟨2, by decide, rfl, fun v => .tpl1 k hk' hp hs'⟩
  | pipe k hd hk' rd rk => exact ⟨2, by decide, rfl, fun v => .pipe k hd hk' rd rk⟩
  | command k rk => exact ⟨2, by decide, rfl, fun v => .command k rk⟩
  | list k rk => exact ⟨2, by decide, rfl, fun v => .list k rk⟩
  | chain k hk' hs' hn => exact ⟨2, by decide, rfl, fun v => .chain k hk' hs' hn⟩
  | branch0 k hk' he hp hl sp sl => exact ⟨2, by rcases k with ⟨_, _, rfl⟩ | ⟨_, _, rfl⟩ | ⟨_, _, rfl⟩ <;> decide, rfl, fun v => .branch0 k hk' he hp hl sp sl⟩
  | branch1 k hk' he hels hp hl hle sp sl se => exact ⟨2, by rcases k with ⟨_, _, rfl⟩ | ⟨_, _, rfl⟩ | ⟨_, _, rfl⟩ <;> decide, rfl, fun v => .branch1 k hk' he hels hp hl hle sp sl se⟩

theorem PN.step {base : Nat} {T : Option Addr} {w w' : World} (h : TrStep base T w w') {base' : Nat} {S : Nat → Prop} {tr : Value → Prop} (ht : tr (.pointer T)) : ∀ d b n, PN w base' S tr d b n → PN w' base' S tr d b n
  | 0, _, _, hn => hn
  | d + 1, b, n, hn => by
    obtain ⟨h1, h2, trv, E, cs, h3, hb, hbody⟩ := hn
    have hbody' : PBody w' S trv (PN w' base' S tr d) n E cs := hbody.step h (PN.step h ht d)
    rcases h.2.2 b with e1 | ⟨_, E', cs', i, p, ht', e1, e2, e3⟩
    · exact ⟨h1, h2, trv, E, cs, h3, e1.trans hb, hbody'⟩
    · rw [hb] at e1
      injection e1 with e1
      injection e1 with x1 x2 x3
      subst x1; subst x2
      obtain ⟨j, hj, _, hset⟩ := hbody'.tri
      obtain rfl : j = i := by rw [hj] at ht'; exact Option.some.inj ht'
      exact ⟨h1, h2, .pointer T, E, _, ht, e3, hset _⟩

/-- A store into the field of the tree of a node's block. -/
theorem TrStep.set {base : Nat} {w : World} {b i : Nat} {E : TypeId} {cs : Array Value} {p : Option Addr} (T : Option Addr) (hb : base ≤ b) (hE : triOf E = some i) (hh : w.heap[b]? = some (.cells cs E (0, 0))) (hp : cs[i]? = some (.pointer p)) :
    TrStep base T w (w.setCell ⟨b, i, none⟩ (.pointer T)) := by
  refine ⟨Below.setCell' (Below.refl _ _) hb _, setCell_size _ _ _, fun k => ?_⟩
  by_cases hk : k = b
  · subst hk
    exact Or.inr ⟨hb, E, cs, i, p, hE, hh, hp, setCell_heap _ hh⟩
  · exact Or.inl (setCell_far _ _ _ _ _ hk)

end Go.Proofs.YtiogfkpclkkoaaaGreat
