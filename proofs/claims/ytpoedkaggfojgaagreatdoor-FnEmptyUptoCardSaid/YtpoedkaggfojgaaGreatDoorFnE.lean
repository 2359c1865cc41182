/-
  The walk of laws.FnEmpty.
-/
import Derived.Test.YtpoedkaggfojgaaGreatDoorEmptyI
import Derived.Test.YtpoedkaggfojgaaGreatDoorShapedJ
import Derived.Deep.RegionHeld3
set_option linter.unusedVariables false
set_option linter.unusedSimpArgs false
namespace Go.Proofs.YtpoedkaggfojgaaGreatDoor
open Go.RowKit

/-- The parameter's block, in a later world. -/
def XG (w W : World) (row : Array Value) : Prop := Below w.heap.size w W ∧ W.heap[w.heap.size]? = some (.cells row 25 (0, 0))
theorem XG.later {w W W' : World} {row : Array Value} (h : XG w W row) (hb : Below W.heap.size W W') : XG w W' row :=
  ⟨h.1.trans (hb.mono h.1.size), (hb.block _ (lt_of_block h.2)).trans h.2⟩
theorem XG.below {w W : World} {row : Array Value} (h : XG w W row) : Below w.heap.size w W := h.1
theorem XG.drew {w W : World} {row : Array Value} (h : XG w W row) : XG w W.drew row := ⟨h.1.drew, h.2⟩
theorem XG.ld {w W : World} {c0 c1 c2 c3 c4 c5 c6 c7 c8 c9 c10 c11 : Value} (h : XG w W #[c0, c1, c2, c3, c4, c5, c6, c7, c8, c9, c10, c11]) :
    XG w W #[c0, c1, c2, c3, c4, c5, c6, c7, c8, c9, c10, c11] ∧ (LdS (.pointer (some ⟨w.heap.size, 0, none⟩))).run Tryz.prog W = .ok (.agg #[c0, c1, c2, c3, c4, c5, c6, c7, c8, c9, c10, c11]) W ∧ W.cell? ⟨w.heap.size, 0, none⟩ = some c0 :=
  ⟨h, run_ldS W w.heap.size 0 [c0, c1, c2, c3, c4, c5, c6, c7, c8, c9, c10, c11] rfl (fun j hj => by
    rw [Nat.zero_add, cell_of_row _ _ j _ _ _ h.2]
    simp), by rw [cell_of_row _ _ 0 _ _ _ h.2]; rfl⟩

/-- The node that is a list of nothing. -/
def nilNode : Nd := .mk 10 ⟨#[]⟩ ⟨#[]⟩ [] false false [] [] [] false 0 false

theorem nil_empty (B : Nat) (w : World) (ht : Tab w) (hB : B ≤ w.heap.size) :
    Calls Tryz.prog 7 #[.agg #[.int .i64 10, .string ⟨#[]⟩, .string ⟨#[]⟩, .slice none 0 0, .bool false, .bool false, .slice none 0 0, .slice none 0 0, .slice none 0 0, .bool false, .bool false, .bool false, .bool false, .bool false, .int .i64 0, .int .u64 0, .int .u64 0]] w
      fun e w' => e = .returned (.bool true) ∧ Below w.heap.size w w' :=
  impl_empty B 0 nilNode w none none none none 0 0 0 0 0 0 0 0 ⟨_, _, _, _, rfl, Row.nil _ _ _ _, Row.nil _ _ _ _, Row.nil _ _ _ _, Row.nil _ _ _ _⟩ (show wt 1 nilNode ≤ 1048576 by decide)
    ⟨nofun, nofun, nofun, Or.inr (Or.inr (Or.inr (Or.inr (Or.inr (Or.inr (Or.inl ⟨rfl, nofun⟩))))))⟩ rfl nofun ht hB

theorem asked_any (d : Nat) (n : Nd) (w : World) {B : Nat} {k0 : Int} {A1 A2 A3 A4 : Option Addr} {m1 m2 m3 m4 c1 c2 c3 c4 : Nat}
    (h : SN w (· < B) (d + 1) [.int .i64 k0, .string n.text, .string n.value, .slice A1 m1 c1, .bool n.tru, .bool n.assign, .slice A2 m2 c2, .slice A3 m3 c3, .slice A4 m4 c4, .bool n.hasElse, .int .i64 n.num, .bool n.exact] n) (hs : Sm (d + 1) n) (hB : B ≤ w.heap.size) :
    Calls Tryz.prog 6 #[.agg #[.int .i64 k0, .string n.text, .string n.value, .slice A1 m1 c1, .bool n.tru, .bool n.assign, .slice A2 m2 c2, .slice A3 m3 c3, .slice A4 m4 c4, .bool n.hasElse, .int .i64 n.num, .bool n.exact]] w (AskedPost w n) := by
  obtain ⟨s2, s3, s4, _⟩ := hs.parts h
  have z3 : ∀ p ∈ n.kids, p.text.size ≤ 1048576 := fun p hp => by
    have h1 := s3.2 p hp
    obtain ⟨_, _, _, _, _, _, _, h3, _⟩ := h
    cases d with
    | zero => exact (Row.all (p := fun _ => False) h3 (fun _ _ h => h.elim) p hp).elim
    | succ d => simp only [Sm, wt] at h1; omega
  obtain ⟨nv, dv, kv, ev, he, h1, h2, h3, h4⟩ := h
  simp only [List.cons.injEq, and_true] at he
  obtain ⟨hk, -, -, rfl, -, -, rfl, rfl, rfl, -, -⟩ := he
  obtain rfl : m3 = n.kids.length := by obtain ⟨_, _, e⟩ := h3.form; injection e
  cases n with
  | mk k t v names tru asg decl kids els b3 num ex =>
    exact asked_walk B d k0 t v names tru asg decl kids els b3 num ex w A1 A2 A3 A4 m1 m2 m4 c1 c2 c3 c4 h3 s3 z3 hB

attribute [local go_sem ↓] ldS
attribute [local go_sem] run_ldS_new

def FnEPost (w : World) (e : Ending) (w' : World) : Prop := e = .returned (.bool true) ∧ Below w.heap.size w w'

set_option maxHeartbeats 4000000 in
set_option maxRecDepth 100000 in
theorem fnEmpty_walk (d : Nat) (n : Nd) (w : World) (A1 A2 A3 A4 : Option Addr) (m1 m2 m3 m4 c1 c2 c3 c4 : Nat)
    (h : SN w (· < w.heap.size) (d + 1) [.int .i64 n.kind, .string n.text, .string n.value, .slice A1 m1 c1, .bool n.tru, .bool n.assign, .slice A2 m2 c2, .slice A3 m3 c3, .slice A4 m4 c4, .bool n.hasElse, .int .i64 n.num, .bool n.exact] n)
    (hs : Sm (d + 1) n) (ht : Tab w) :
    Calls Tryz.prog 3 #[.agg #[.int .i64 n.kind, .string n.text, .string n.value, .slice A1 m1 c1, .bool n.tru, .bool n.assign, .slice A2 m2 c2, .slice A3 m3 c3, .slice A4 m4 c4, .bool n.hasElse, .int .i64 n.num, .bool n.exact]] w (FnEPost w) := by
  have hl := ht.lt
  have hxg0 : XG w (w.alloc (.cells #[.int .i64 n.kind, .string n.text, .string n.value, .slice A1 m1 c1, .bool n.tru, .bool n.assign, .slice A2 m2 c2, .slice A3 m3 c3, .slice A4 m4 c4, .bool n.hasElse, .int .i64 n.num, .bool n.exact] 25)) #[.int .i64 n.kind, .string n.text, .string n.value, .slice A1 m1 c1, .bool n.tru, .bool n.assign, .slice A2 m2 c2, .slice A3 m3 c3, .slice A4 m4 c4, .bool n.hasElse, .int .i64 n.num, .bool n.exact] := ⟨below_new _ _, heap_alloc_new _ _⟩
  by_cases h10 : n.kind = 10
  · rw [h10] at h hxg0 ⊢
    have X0 := Lib.hid hxg0
    have H := Lib.hid h
    have HS := Lib.hid hs
    have HT := Lib.hid ht
    have K10 := Lib.hid h10
    clear hxg0 h hs ht h10
    go_enter Tryz.func3, Tryz.ntmps3
    go_upto_region 5 with (first
      | (go_at_call 4; refine Calls.mono (fits3_any d [_, _, _, _, _, _, _, _, _, _, _, _] n (· < w.heap.size) _ (SN.mono (fun _ h _ => h) (Keeps.of_below X0.out.1) _ _ _ H.out) HS.out) ?_; rintro e w1 ⟨rfl, hb1⟩; have hx1 := X0.out.later hb1; have q1 := hx1.ld.2.1; have q2 := hx1.ld.2.2; have X1 := Lib.hid hx1; clear hx1 hb1)
      | (go_at_call 5; refine Calls.mono (shaped_any (d + 1) [_, _, _, _, _, _, _, _, _, _, _, _] n (· < w.heap.size) _ (SN.mono (fun _ h _ => h) (Keeps.of_below X1.out.1) _ _ _ H.out) HS.out) ?_; rintro e w2 ⟨b2, rfl, hsh, hb2⟩; have hx2 := X1.out.later hb2; have q3 := hx2.ld.2.1; have q4 := hx2.ld.2.2; have X2 := Lib.hid hx2; have SH := Lib.hid hsh; clear hx2 hb2 hsh)
      | (go_at_call 6; refine Calls.mono (asked_any (B := w.heap.size) d n _ ?_ HS.out ?_) ?_; exact SN.mono (fun _ h _ => h) (Keeps.of_below X2.out.1) _ _ _ H.out; exact X2.out.1.size; rintro e w3 ⟨b3, rfl, hak, hb3⟩; have hx3 := X2.out.later hb3; have q5 := hx3.ld.2.1; have q6 := hx3.ld.2.2; have X3 := Lib.hid hx3; have AK := Lib.hid hak; clear hx3 hb3 hak))
    · go_ret
      exact ⟨rfl, X2.out.1⟩
    · go_ret
      exact ⟨rfl, X3.out.1⟩
    obtain rfl : b2 = true := by first | assumption | simpa using ‹(!b2) = false›
    obtain rfl : b3 = true := by first | assumption | simpa using ‹(!b3) = false›
    have hsh := SH.out rfl
    have hak := AK.out rfl
    have heq := (emptyD_list K10.out hsh).1
    generalize hbb : n.kids.all emptyK = bb at heq
    have BB := Lib.hid hbb
    have EQ := Lib.hid heq
    have SH' := Lib.hid hsh
    have AK' := Lib.hid hak
    clear hsh hak heq hbb
    have hxg0 := X3.out
    go_region_held3 (fun w' => XG w w' #[.int .i64 10, .string n.text, .string n.value, .slice A1 m1 c1, .bool n.tru, .bool n.assign, .slice A2 m2 c2, .slice A3 m3 c3, .slice A4 m4 c4, .bool n.hasElse, .int .i64 n.num, .bool n.exact] ∧ (LdS (.pointer (some ⟨w.heap.size, 0, none⟩))).run Tryz.prog w' = .ok (.agg #[.int .i64 10, .string n.text, .string n.value, .slice A1 m1 c1, .bool n.tru, .bool n.assign, .slice A2 m2 c2, .slice A3 m3 c3, .slice A4 m4 c4, .bool n.hasElse, .int .i64 n.num, .bool n.exact]) w' ∧ w'.cell? ⟨w.heap.size, 0, none⟩ = some (.int .i64 10))
      (first | exact (XG.drew hxg).ld | exact hxg.ld | exact (XG.drew hxg0).ld | exact hxg0.ld)
      (first
        | (go_at_call 8; go_split_ands; refine Calls.mono (given_any w.heap.size (d + 1) [_, _, _, _, _, _, _, _, _, _, _, _] n _ ?_ HS.out ?_) ?_; exact SN.mono (fun _ h _ => h) (Keeps.of_below (XG.below (by assumption))) _ _ _ H.out; exact (XG.below (by assumption)).size; intro e w1 hgp; obtain ⟨cs', rfl, hin, hb⟩ := hgp; obtain ⟨a1, g1, a2, g2, a3, g3, a4, g4, rfl⟩ := hin.form; have hxg := XG.later (by assumption) hb; rw [K10.out] at hin ⊢; obtain ⟨B1, hB1⟩ : ∃ B1, B1 ≤ w1.heap.size ∧ w1.heap.size ≤ B1 := ⟨_, Nat.le_refl _, Nat.le_refl _⟩; replace hin := IN.mono (S' := (· < B1)) (fun b _ h => Nat.lt_of_lt_of_le h hB1.2) (Keeps.refl _ _) _ _ _ hin; replace hB1 := hB1.1; have HIN := Lib.hid hin; clear hin)
        | (go_at_call_of 7 a3; go_split_ands; refine Calls.mono (impl_empty B1 d n _ a1 a2 a3 a4 _ _ _ _ g1 g2 g3 g4 HIN.out HS.out SH'.out K10.out AK'.out (HT.out.later (XG.below (by assumption)) hl) hB1) ?_; rintro e w2 ⟨rfl, hb2⟩; rw [BB.out]; have hxg := XG.later (by assumption) hb2)
        | (go_at_call 9; go_split_ands; refine Calls.mono (empty_any w.heap.size (d + 1) [_, _, _, _, _, _, _, _, _, _, _, _] n _ ?_ HS.out ?_) ?_; exact SN.mono (fun _ h _ => h) (Keeps.of_below (XG.below (by assumption))) _ _ _ H.out; exact (XG.below (by assumption)).size; rintro e w3 ⟨rfl, hb3⟩; rw [EQ.out]; have hxg := XG.later (by assumption) hb3; (try replace HIN := Lib.hid (IN.mono (fun _ h _ => h) (Keeps.of_below hb3) _ _ _ HIN.out)); (try replace hB1 := Nat.le_trans hB1 hb3.size))
        | (go_at_call 7; go_split_ands; refine Calls.mono (nil_empty w.heap.size _ (HT.out.later (XG.below (by assumption)) hl) (XG.below (by assumption)).size) ?_; rintro e w4 ⟨rfl, hb4⟩; have hxg := XG.later (by assumption) hb4))
    all_goals go_wp2
    all_goals go_ret
    all_goals exact ⟨rfl, XG.below (by assumption)⟩
  · have X0 := Lib.hid hxg0
    have H := Lib.hid h
    have HS := Lib.hid hs
    clear hxg0 h hs ht hl
    go_enter Tryz.func3, Tryz.ntmps3
    go_wp2_with (go_at_call 4; refine Calls.mono (fits3_any d [_, _, _, _, _, _, _, _, _, _, _, _] n (· < w.heap.size) _ (SN.mono (fun _ h _ => h) (Keeps.of_below X0.out.1) _ _ _ H.out) HS.out) ?_; rintro e w1 ⟨rfl, hb1⟩; have hx1 := X0.out.later hb1; have q1 := hx1.ld.2.1; have q2 := hx1.ld.2.2; have X1 := Lib.hid hx1; clear hx1 hb1)
    go_ret
    exact ⟨rfl, X1.out.1⟩

end Go.Proofs.YtpoedkaggfojgaaGreatDoor
