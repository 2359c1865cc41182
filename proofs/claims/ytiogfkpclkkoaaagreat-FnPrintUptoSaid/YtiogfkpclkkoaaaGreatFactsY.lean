/-
  What parse.zzTree's walk keeps.
-/
import Derived.Test.YtiogfkpclkkoaaaGreatFactsZ
set_option linter.unusedVariables false
set_option linter.unusedSimpArgs false
namespace Go.Proofs.YtiogfkpclkkoaaaGreat
open Go.RowKit

def TrPtr (v : Value) : Prop := ∃ p, v = .pointer p
def TrIs (T : Option Addr) (v : Value) : Prop := v = .pointer T

def ZzPost (w : World) (base : Nat) (T : Option Addr) (S : Nat → Prop) (d b : Nat) (n : Nd) (e : Ending) (w' : World) : Prop :=
  e = .returned (.tuple #[]) ∧ TrStep base T w w' ∧ PN w' base S (TrIs T) d b n
def ZzAt (base : Nat) (T : Option Addr) (S : Nat → Prop) (d : Nat) : Prop :=
  ∀ b n w, PN w base S TrPtr d b n → Sm d n → Calls Tryz.prog 29 #[ifc n b, .pointer T] w (ZzPost w base T S d b n)

theorem PN.close {w wn : World} {base b i d : Nat} {T : Option Addr} {S : Nat → Prop} {n : Nd} {E : TypeId} {cs : Array Value} (h1 : base ≤ b) (h2 : S b) (hE : triOf E = some i) (hh : w.heap[b]? = some (.cells cs E (0, 0)))
    (hst : TrStep base T (w.setCell ⟨b, i, none⟩ (.pointer T)) wn) (hbody : PBody wn S (.pointer T) (PN wn base S (TrIs T) d) n E (cs.setIfInBounds i (.pointer T))) : PN wn base S (TrIs T) (d + 1) b n := by
  refine ⟨h1, h2, .pointer T, E, _, rfl, ?_, hbody⟩
  have hs := setCell_heap (i := i) (.pointer T) hh
  rcases hst.2.2 b with e | ⟨_, E', cs', i', p, ht, e1, e2, e3⟩
  · exact e.trans hs
  · rw [hs] at e1
    injection e1 with e1
    injection e1 with x1 x2 x3
    subst x2
    obtain rfl : i = i' := by rw [hE] at ht; exact Option.some.inj ht
    rw [e3, ← x1]
    simp

theorem fr_at {w : World} {b : Nat} {cs : Array Value} {T : TypeId} (hb : w.heap[b]? = some (.cells cs T (0, 0))) (j : Nat) : w.frozen? ⟨b, j, none⟩ = false := by simp [World.frozen?, hb]

/-- A loop over a row of nodes: the first k have their tree. -/
def ZL (w wr : World) (base : Nat) (S : Nat → Prop) (T : Option Addr) (d : Nat) (E : TypeId) (f : Nd → Nat → Value) (v : Value) (l : List Nd) (k : Nat) : Prop :=
  TrStep base T w wr ∧ RowP wr S E f (PN wr base S TrPtr d) v l ∧
  ∀ i, (h : i < l.length) → i < k → ∀ g cap, v = .slice (some ⟨g, 0, none⟩) l.length cap → ∀ b, wr.cell? ⟨g, i, none⟩ = some (f l[i] b) → PN wr base S (TrIs T) d b l[i]

theorem ZL.zero {w wr : World} {base d : Nat} {S : Nat → Prop} {T : Option Addr} {E : TypeId} {f : Nd → Nat → Value} {v : Value} {l : List Nd} (h : TrStep base T w wr) (hr : RowP wr S E f (PN wr base S TrPtr d) v l) : ZL w wr base S T d E f v l 0 :=
  ⟨h, hr, fun _ _ h => absurd h (by omega)⟩
theorem RowP.form {w : World} {S : Nat → Prop} {E : TypeId} {f : Nd → Nat → Value} {sub : Nat → Nd → Prop} {v : Value} {l : List Nd} (h : RowP w S E f sub v l) : ∃ A c, v = .slice A l.length c := by
  rcases h with ⟨rfl, rfl⟩ | ⟨g, cap, cur, rfl, _⟩
  · exact ⟨_, _, rfl⟩
  · exact ⟨_, _, rfl⟩
theorem ZL.at {w wr : World} {base d k : Nat} {S : Nat → Prop} {T : Option Addr} {E : TypeId} {f : Nd → Nat → Value} {A : Option Addr} {c : Nat} {l : List Nd} (h : ZL w wr base S T d E f (.slice A l.length c) l k) (hk : k < l.length) :
    ∃ g b p, l[k] = p ∧ A = some ⟨g, 0, none⟩ ∧ wr.cell? ⟨g, k, none⟩ = some (f p b) ∧ PN wr base S TrPtr d b p := by
  rcases h.2.1 with ⟨_, h0⟩ | ⟨g, cap, cur, e, _, hh, hc⟩
  · subst h0; simp at hk
  · injection e with e1 e2 e3
    obtain ⟨b, h1, h2⟩ := hc k hk
    exact ⟨g, b, l[k], rfl, e1, by rw [cell_of_heap' hh]; exact h1, h2⟩
theorem ZL.succ {w wr wr' : World} {base d k g b : Nat} {S : Nat → Prop} {T : Option Addr} {E : TypeId} {f : Nd → Nat → Value} {c : Nat} {l : List Nd} {p : Nd} (h : ZL w wr base S T d E f (.slice (some ⟨g, 0, none⟩) l.length c) l k) (hk : k < l.length) (hp : l[k] = p)
    (hE : triOf E = none) (hf : ∀ n b b', f n b = f n b' → b = b') (hst : TrStep base T wr wr') (hc : wr.cell? ⟨g, k, none⟩ = some (f p b)) (hn : PN wr' base S (TrIs T) d b p) : ZL w wr' base S T d E f (.slice (some ⟨g, 0, none⟩) l.length c) l (k + 1) := by
  subst hp
  refine ⟨h.1.trans hst, h.2.1.step hst hE (PN.step hst ⟨T, rfl⟩ d), fun i hi hlt g' cap' e b' hb' => ?_⟩
  obtain ⟨rfl, rfl⟩ : g = g' ∧ c = cap' := by simpa using e
  have hback : wr.cell? ⟨g, i, none⟩ = some (f l[i] b') := by
    rcases h.2.1 with ⟨_, h0⟩ | ⟨g2, cap, cur, e2, _, hh, _⟩
    · subst h0; simp at hk
    · obtain ⟨rfl, rfl⟩ : g = g2 ∧ c = cap := by simpa using e2
      rw [cell_of_heap' (hst.row hh hE)] at hb'
      rw [cell_of_heap' hh]
      exact hb'
  rcases Nat.lt_or_ge i k with h' | h'
  · exact PN.step hst (tr := TrIs T) rfl d _ _ (h.2.2 i hi h' g c rfl b' hback)
  · obtain rfl : i = k := by omega
    rw [hc] at hback
    obtain rfl := hf _ _ _ (Option.some.inj hback)
    exact hn
theorem ZL.done {w wr : World} {base d k : Nat} {S : Nat → Prop} {T : Option Addr} {E : TypeId} {f : Nd → Nat → Value} {v : Value} {l : List Nd} (h : ZL w wr base S T d E f v l k) (hk : k = l.length) : RowP wr S E f (PN wr base S (TrIs T) d) v l := by
  rcases h.2.1 with h1 | ⟨g, cap, cur, rfl, hg, hh, hc⟩
  · exact Or.inl h1
  · refine Or.inr ⟨g, cap, cur, rfl, hg, hh, fun i hi => ?_⟩
    obtain ⟨b, h1, _⟩ := hc i hi
    exact ⟨b, h1, h.2.2 i hi (by omega) g cap rfl b (by rw [cell_of_heap' hh]; exact h1)⟩
theorem ifc_inj (n : Nd) (b b' : Nat) (h : ifc n b = ifc n b') : b = b' := by simpa [ifc] using h
theorem ptrf_inj (n : Nd) (b b' : Nat) (h : ptrf n b = ptrf n b') : b = b' := by simpa [ptrf] using h

/-- A node's block whose tree is T already stays as it is. -/
theorem TrStep.own {base b i : Nat} {T : Option Addr} {w wn : World} {E : TypeId} {cs : Array Value} (h : TrStep base T w wn) (hE : triOf E = some i) (hh : w.heap[b]? = some (.cells cs E (0, 0))) (hT : cs[i]? = some (.pointer T)) : wn.heap[b]? = some (.cells cs E (0, 0)) := by
  rcases h.2.2 b with e | ⟨_, E', cs', i', p, ht, e1, e2, e3⟩
  · exact e.trans hh
  · rw [hh] at e1
    injection e1 with e1
    injection e1 with x1 x2 x3
    subst x2
    subst x1
    obtain rfl : i = i' := by rw [hE] at ht; exact Option.some.inj ht
    rw [e3]
    congr 2
    apply Array.ext_getElem?
    intro j
    rw [Array.getElem?_setIfInBounds]
    by_cases hj : i = j
    · subst hj
      have := (Array.getElem?_eq_some_iff.1 hT).1
      rw [if_pos rfl, if_pos this, hT]
    · rw [if_neg hj]

end Go.Proofs.YtiogfkpclkkoaaaGreat
