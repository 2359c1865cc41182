/-
  spec.joined, spec.word; how long a printed node is.
  How long a printed node is.
-/
import Derived.Test.YtiogfkpclkkoaaaGreatWrF
import Derived.LoopTactic
import Derived.Deep.LoopGhost
set_option linter.unusedVariables false
set_option linter.unusedSimpArgs false
namespace Go.Proofs.YtiogfkpclkkoaaaGreat
open Go.RowKit

/-- A string is returned that reads as l. -/
def StrIs (l : List UInt8) (v : Value) : Prop := ∃ s : ByteArray, v = .string s ∧ s.data.toList = l
def JoinPost (w : World) (l : List UInt8) (e : Ending) (w' : World) : Prop := ∃ s : ByteArray, e = .returned (.string s) ∧ s.data.toList = l ∧ w = w'

theorem append_data (a b : ByteArray) : (a ++ b).data.toList = a.data.toList ++ b.data.toList := by simp
theorem size_data {s : ByteArray} {l : List UInt8} (h : s.data.toList = l) : s.size = l.length := by subst h; simp

theorem joinK_le {α : Type} (sep : List UInt8) (f : α → List UInt8) (k : Nat) (l : List α) : (joinK sep f k l).length ≤ (joinL sep (l.map f)).length := by
  unfold joinK
  rw [List.map_take]
  exact joinL_take_le _ _ _

set_option maxHeartbeats 1000000 in
set_option maxRecDepth 100000 in
theorem joined_any (S : Nat → Prop) (names : List ByteArray) (A : Option Addr) (c : Nat) (sep : ByteArray) (sl : List UInt8) (w : World) (hx : Strs w S (.slice A names.length c) names) (hsep : sep.data.toList = sl) (hs3 : sep.size ≤ 8) (hlen : names.length ≤ 1048576) (hl : (joinL sl (names.map by')).length ≤ 67108864) :
    Calls Tryz.prog 19 #[.slice A names.length c, .string sep] w (JoinPost w (joinL sl (names.map by'))) := by
  have HX := Lib.hid hx
  have HSEP := Lib.hid hsep
  have HL := Lib.hid hl
  have hsl := size_data hsep
  have HSL := Lib.hid hsl
  clear hx hsep hl hsl
  generalize hm : names.length = m at *
  have M := Lib.hid hm
  clear hm
  go_enter Tryz.func19, Tryz.ntmps19
  go_wp2
  go_loop [5, 10] (fun a i => ∃ (k : Nat) (s : ByteArray), k ≤ m ∧ a = .string s ∧ i = .int .i64 k ∧ Hid (s.data.toList = joinK sl by' k names)) (fun _ i => m - (intOf i).toNat)
  case atStart => exact ⟨0, _, Nat.zero_le _, rfl, rfl, Lib.hid rfl⟩
  case round =>
    obtain ⟨k, s, hk, rfl, rfl, hs⟩ := hrel
    have hz : s.size ≤ 67108864 := by rw [size_data hs.out]; exact Nat.le_trans (joinK_le _ _ _ _) HL.out
    by_cases hltk : k < m
    · have hlt' : k < names.length := by rw [M.out]; exact hltk
      have hx := HX.out
      rw [← M.out] at hx
      obtain ⟨g, o, rfl, _, _, q0⟩ := hx.at hlt'
      obtain ⟨t, ht⟩ : ∃ t, names[k] = t := ⟨_, rfl⟩
      by_cases hk0 : k = 0
      · subst hk0
        have hr := joinK_room0 sl by' hlt'
        rw [ht] at q0 hr
        have htz : t.size ≤ 67108864 := by rw [by'_len] at hr; have := HL.out; omega
        have HT := Lib.hid ht
        clear ht hr hx
        rw [Nat.add_zero] at q0
        rw [show ((0 : Nat) : Int) = (0 : Int) from rfl]
        go_wp2
        go_round
        case rel => exact ⟨0 + 1, _, by omega, rfl, by rfl, Lib.hid (by rw [append_data, hs.out, joinK_zero, joinK_one _ _ hlt', HT.out]; rfl)⟩
        case measure => simp [intOf]; omega
      · have hk1 : 0 < k := by omega
        have hr := joinK_room sl by' hlt' hk1
        rw [ht] at q0 hr
        have htz : t.size ≤ 67108864 := by rw [by'_len] at hr; have := HL.out; omega
        have HT := Lib.hid ht
        clear ht hr hx
        go_wp2
        go_round
        case rel => exact ⟨k + 1, _, by omega, rfl, by go_num, Lib.hid (by rw [append_data, append_data, hs.out, HSEP.out, joinK_succ _ _ hlt' hk1, HT.out]; simp [by'])⟩
        case measure => simp [intOf]; omega
    · have hk' : k = m := by omega
      subst hk'
      go_wp2
      go_ret
      exact ⟨_, rfl, by rw [hs.out, joinK_all _ _ M.out], rfl⟩

set_option maxHeartbeats 1000000 in
theorem word_any (k : Int) (hk : k = 9 ∨ k = 14 ∨ k = 18) (w : World) :
    Calls Tryz.prog 22 #[.int .i64 k] w (JoinPost w (wordD k)) := by
  rcases hk with rfl | rfl | rfl
  all_goals
    go_enter Tryz.func22, Tryz.ntmps22
    go_wp2
    go_ret
    exact ⟨_, rfl, rfl, rfl⟩

end Go.Proofs.YtiogfkpclkkoaaaGreat

set_option linter.unusedVariables false
set_option linter.unusedSimpArgs false
namespace Go.Proofs.YtiogfkpclkkoaaaGreat
open Go.RowKit

theorem joinL_len (sep : List UInt8) : ∀ l : List (List UInt8), (joinL sep l).length ≤ (l.map fun x => x.length + sep.length).sum
  | [] => by simp [joinL]
  | a :: r => by
    have h : (r.flatMap fun s => sep ++ s).length ≤ (r.map fun x => x.length + sep.length).sum := by
      induction r with
      | nil => simp
      | cons b r ih => simp only [List.flatMap_cons, List.length_append, List.map_cons, List.sum_cons]; omega
    simp only [joinL, List.length_append, List.map_cons, List.sum_cons]
    omega
theorem sum_mono {α : Type} (f g : α → Nat) : ∀ l : List α, (∀ a ∈ l, f a ≤ g a) → (l.map f).sum ≤ (l.map g).sum
  | [], _ => by simp
  | a :: r, h => by
    have h1 := h a (by simp)
    have h2 := sum_mono f g r fun b hb => h b (by simp [hb])
    simp only [List.map_cons, List.sum_cons]
    omega
theorem sum_mul (f : Nd → Nat) : ∀ l : List Nd, (l.map fun a => 40 * f a).sum = 40 * (l.map f).sum
  | [] => by simp
  | a :: r => by
    simp only [List.map_cons, List.sum_cons, sum_mul f r]
    omega
theorem join_len (sep : List UInt8) (f : Nd → List UInt8) (d : Nat) (l : List Nd) (h : ∀ a ∈ l, (f a).length + sep.length ≤ 40 * wt d a) : (joinL sep (l.map f)).length ≤ 40 * (l.map (wt d)).sum := by
  refine Nat.le_trans (joinL_len sep _) ?_
  rw [List.map_map, ← sum_mul]
  exact sum_mono _ _ _ fun a ha => h a ha
theorem flat_len (f : Nd → List UInt8) (d : Nat) : ∀ l : List Nd, (∀ a ∈ l, (f a).length ≤ 40 * wt d a) → (l.flatMap f).length ≤ 40 * (l.map (wt d)).sum
  | [], _ => by simp
  | a :: r, h => by
    have h1 := h a (by simp)
    have h2 := flat_len f d r fun b hb => h b (by simp [hb])
    simp only [List.flatMap_cons, List.length_append, List.map_cons, List.sum_cons]
    omega
theorem firsts_len (f g : Nd → List UInt8) (d : Nat) (l : List Nd) (h : ∀ a ∈ l, (f a).length ≤ 40 * wt d a) (h' : ∀ a ∈ l, (g a).length ≤ 40 * wt d a) : (firstD f l).length + (secondD g l).length ≤ 40 * (l.map (wt d)).sum := by
  match l, h, h' with
  | [], _, _ => simp [firstD, secondD]
  | [a], h, _ => have := h a (by simp); simp [firstD, secondD]; omega
  | a :: b :: r, h, h' =>
    have h1 := h a (by simp)
    have h2 := h' b (by simp)
    simp only [firstD, secondD, List.map_cons, List.sum_cons]
    omega
theorem dots_len : ∀ l : List ByteArray, (dots l).length = (l.map fun s => s.size + 1).sum
  | [] => rfl
  | a :: r => by
    have := dots_len r
    simp only [dots, List.flatMap_cons, List.length_append, List.length_cons, by'_len, List.map_cons, List.sum_cons] at this ⊢
    omega
theorem dotted_len (l : List ByteArray) : (dotted l).length ≤ (l.map fun s => s.size + 1).sum := by
  refine Nat.le_trans (joinL_len _ _) ?_
  rw [List.map_map]
  exact sum_mono _ _ _ fun a _ => by simp [by'_len]
theorem argD_len (f : Nd → List UInt8) (p : Nd) : (argD f p).length ≤ (f p).length + 2 := by
  unfold argD
  split <;> simp

theorem ite_len {c : Prop} [Decidable c] {a b : List UInt8} {N : Nat} (h1 : a.length + 8 ≤ N) (h2 : b.length + 8 ≤ N) : (if c then a else b).length + 8 ≤ N := by
  by_cases h : c <;> simp [h] <;> assumption
theorem ite_le {c : Prop} [Decidable c] (a b : List UInt8) : (if c then a else b).length ≤ a.length + b.length := by
  by_cases h : c <;> simp [h]

theorem pr_len : ∀ d n, Shp d n → (pr d n).length + 8 ≤ 40 * wt d n
  | 0, _, h => h.elim
  | d + 1, n, h => by
    have ih := pr_len d
    have hk : ∀ a ∈ n.kids, (pr d a).length + 8 ≤ 40 * wt d a := fun a ha => ih a (h.2.1 a ha)
    have hd : ∀ a ∈ n.decl, (pr d a).length + 8 ≤ 40 * wt d a := fun a ha => ih a (h.1 a ha)
    have he : ∀ a ∈ n.els, (pr d a).length + 8 ≤ 40 * wt d a := fun a ha => ih a (h.2.2.1 a ha)
    have f1 := by'_len n.text
    have f2 := dots_len n.names
    have f3 := dotted_len n.names
    have f5 := firsts_len (argD (pr d)) (pr d) d n.kids (fun a ha => by have := hk a ha; have := argD_len (pr d) a; omega) (fun a ha => by have := hk a ha; omega)
    have f10 := firsts_len (pr d) (pr d) d n.kids (fun a ha => by have := hk a ha; omega) (fun a ha => by have := hk a ha; omega)
    have f11 := firsts_len (pr d) (pr d) d n.els (fun a ha => by have := he a ha; omega) (fun a ha => by have := he a ha; omega)
    have f6 := join_len [32] (argD (pr d)) d n.kids (fun a ha => by have := hk a ha; have := argD_len (pr d) a; simp; omega)
    have f7 := join_len [44, 32] (pr d) d n.decl (fun a ha => by have := hd a ha; simp; omega)
    have f8 := join_len [32, 124, 32] (pr d) d n.kids (fun a ha => by have := hk a ha; simp; omega)
    have f9 := flat_len (pr d) d n.kids (fun a ha => by have := hk a ha; omega)
    have f12 : (wordD n.kind).length ≤ 5 := by unfold wordD; split <;> (try split) <;> decide
    simp only [wt]
    unfold pr
    generalize (n.names.map fun s => s.size + 1).sum = NM at *
    generalize (n.kids.map (wt d)).sum = K at *
    generalize (n.decl.map (wt d)).sum = DL at *
    generalize (n.els.map (wt d)).sum = E at *
    have i1 := ite_le (c := n.kids = []) [] (32 :: firstD (pr d) n.kids)
    have i2 := ite_le (c := n.hasElse = true) (lbr ++ [101, 108, 115, 101] ++ rbr ++ firstD (pr d) n.els) []
    have i3 := ite_le (c := n.assign = true) [32, 61, 32] [32, 58, 61, 32]
    have i4 := ite_le (c := n.decl = []) [] (joinL [44, 32] (n.decl.map (pr d)) ++ (if n.assign = true then [32, 61, 32] else [32, 58, 61, 32]))
    have i5 := ite_le (c := n.tru = true) [116, 114, 117, 101] [102, 97, 108, 115, 101]
    simp only [List.length_append, List.length_cons, List.length_nil, lbr, rbr] at i1 i2 i3 i4 i5
    repeat' (with_reducible refine ite_len ?_ ?_)
    all_goals (first | omega | (simp only [List.length_append, List.length_cons, List.length_nil, lbr, rbr]; omega))

end Go.Proofs.YtiogfkpclkkoaaaGreat
