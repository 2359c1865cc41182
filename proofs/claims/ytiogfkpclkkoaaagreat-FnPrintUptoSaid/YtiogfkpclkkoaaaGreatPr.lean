/-
  Plain words: what a node prints.
-/
import Derived.Test.YtiogfkpclkkoaaaGreatDefs
set_option linter.unusedVariables false
set_option linter.unusedSimpArgs false
namespace Go.Proofs.YtiogfkpclkkoaaaGreat
open Go.RowKit

def joinL (sep : List UInt8) : List (List UInt8) → List UInt8
  | [] => []
  | a :: r => a ++ r.flatMap fun s => sep ++ s

theorem take_succ' {α : Type} {l : List α} {k : Nat} (h : k < l.length) : l.take (k + 1) = l.take k ++ [l[k]] := by
  rw [List.take_add_one, List.getElem?_eq_getElem h]; rfl
theorem joinL_append (sep : List UInt8) : ∀ (l : List (List UInt8)) (a : List UInt8), l ≠ [] → joinL sep (l ++ [a]) = joinL sep l ++ (sep ++ a)
  | [], _, h => absurd rfl h
  | b :: r, a, _ => by simp [joinL]
theorem joinL_succ {sep : List UInt8} {l : List (List UInt8)} {k : Nat} (h : k < l.length) (h0 : 0 < k) : joinL sep (l.take (k + 1)) = joinL sep (l.take k) ++ (sep ++ l[k]) := by
  rw [take_succ' h]
  exact joinL_append sep _ _ (by intro e; have := congrArg List.length e; rw [List.length_take] at this; simp only [List.length_nil] at this; omega)
theorem joinL_one {sep : List UInt8} {l : List (List UInt8)} (h : 0 < l.length) : joinL sep (l.take 1) = l[0] := by
  cases l with
  | nil => simp at h
  | cons a r => simp [joinL]
theorem flatMap_succ {α : Type} (f : α → List UInt8) {l : List α} {k : Nat} (h : k < l.length) : (l.take (k + 1)).flatMap f = (l.take k).flatMap f ++ f l[k] := by
  rw [take_succ' h, List.flatMap_append]; simp only [List.flatMap_cons, List.flatMap_nil, List.append_nil]

/-- The bytes of a text. -/
def by' (s : ByteArray) : List UInt8 := s.data.toList
def lbr : List UInt8 := [123, 123]
def rbr : List UInt8 := [125, 125]
/-- Names, a period ahead of each. -/
def dots (l : List ByteArray) : List UInt8 := l.flatMap fun s => 46 :: by' s
/-- Names with periods between them. -/
def dotted (l : List ByteArray) : List UInt8 := joinL [46] (l.map by')

def wordD (k : Int) : List UInt8 := if k = 9 then [105, 102] else if k = 14 then [114, 97, 110, 103, 101] else [119, 105, 116, 104]

def argD (pr : Nd → List UInt8) (p : Nd) : List UInt8 := if p.kind = 13 then 40 :: (pr p ++ [41]) else pr p
def firstD (f : Nd → List UInt8) (l : List Nd) : List UInt8 := match l with | [] => [] | p :: _ => f p
def secondD (f : Nd → List UInt8) (l : List Nd) : List UInt8 := match l with | _ :: p :: _ => f p | _ => []

/-- What a node prints, to depth d. -/
def pr : Nat → Nd → List UInt8
  | 0, _ => []
  | d + 1, n =>
    if n.kind = 1 then by' n.text else if n.kind = 8 then by' n.text else if n.kind = 12 then by' n.text else if n.kind = 15 then by' n.text else
    if n.kind = 19 then lbr ++ by' n.text ++ rbr else
    if n.kind = 2 then lbr ++ firstD (pr d) n.kids ++ rbr else
    if n.kind = 3 then (if n.tru then [116, 114, 117, 101] else [102, 97, 108, 115, 101]) else
    if n.kind = 6 then [46] else if n.kind = 11 then [110, 105, 108] else
    if n.kind = 20 then lbr ++ [98, 114, 101, 97, 107] ++ rbr else if n.kind = 21 then lbr ++ [99, 111, 110, 116, 105, 110, 117, 101] ++ rbr else
    if n.kind = 7 then dots n.names else if n.kind = 17 then dotted n.names else
    if n.kind = 4 then firstD (argD (pr d)) n.kids ++ dots n.names else
    if n.kind = 5 then joinL [32] (n.kids.map (argD (pr d))) else
    if n.kind = 13 then (if n.decl = [] then [] else joinL [44, 32] (n.decl.map (pr d)) ++ (if n.assign then [32, 61, 32] else [32, 58, 61, 32])) ++ joinL [32, 124, 32] (n.kids.map (pr d)) else
    if n.kind = 10 then n.kids.flatMap (pr d) else
    if n.kind = 16 then lbr ++ [116, 101, 109, 112, 108, 97, 116, 101, 32, 34] ++ by' n.text ++ [34] ++ (if n.kids = [] then [] else 32 :: firstD (pr d) n.kids) ++ rbr else
    lbr ++ wordD n.kind ++ [32] ++ firstD (pr d) n.kids ++ rbr ++ secondD (pr d) n.kids ++ (if n.hasElse then lbr ++ [101, 108, 115, 101] ++ rbr ++ firstD (pr d) n.els else []) ++ lbr ++ [101, 110, 100] ++ rbr

end Go.Proofs.YtiogfkpclkkoaaaGreat
