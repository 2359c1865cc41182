/-
  spec.Shaped, joined: whatever the node. First what its first test turns away.
-/
import Derived.Test.YtiogfkpclkkoaaaGreatShapedA
import Derived.Test.YtiogfkpclkkoaaaGreatShapedB
import Derived.Test.YtiogfkpclkkoaaaGreatShapedC
set_option linter.unusedVariables false
set_option linter.unusedSimpArgs false
namespace Go.Proofs.YtiogfkpclkkoaaaGreat
open Go.RowKit

section
variable (t v : ByteArray) (m1 m2 m3 m4 : Nat) (tru asg ex : Bool) (num : Int) (w : World) (A1 A2 A3 A4 : Option Addr) (c1 c2 c3 c4 : Nat)

/-- It returned false, and nothing that was there has turned. -/
def SaidNo (w : World) (e : Ending) (w' : World) : Prop := e = .returned (.bool false) ∧ Below w.heap.size w w'

set_option maxHeartbeats 1000000 in
set_option maxRecDepth 100000 in
/-- Variables, but no pipeline. -/
theorem bad_decl (k : Int) (b3 : Bool) (hd : 0 < m2) (hk : ¬ k = 13) :
    Calls Tryz.prog 5 #[.agg #[.int .i64 k, .string t, .string v, .slice A1 m1 c1, .bool tru, .bool asg, .slice A2 m2 c2, .slice A3 m3 c3, .slice A4 m4 c4, .bool b3, .int .i64 num, .bool ex]] w (SaidNo w) := by
  have hd' : decide (0 < m2) = true := by simpa using hd
  have hk' : (k == 13) = false := by simpa using hk
  go_enter Tryz.func5, Tryz.ntmps5
  go_wp2_with fail
  go_ret
  exact ⟨rfl, below_new _ _⟩

set_option maxHeartbeats 1000000 in
set_option maxRecDepth 100000 in
theorem bad_else0 (k : Int) (b3 : Bool) (h : (b3 = true ∧ ¬ m4 = 1) ∨ (b3 = false ∧ m4 = 1)) :
    Calls Tryz.prog 5 #[.agg #[.int .i64 k, .string t, .string v, .slice A1 m1 c1, .bool tru, .bool asg, .slice A2 0 c2, .slice A3 m3 c3, .slice A4 m4 c4, .bool b3, .int .i64 num, .bool ex]] w (SaidNo w) := by
  rcases h with ⟨rfl, h⟩ | ⟨rfl, rfl⟩
  · have h' : ((m4 : Int) == 1) = false := by simp; omega
    go_enter Tryz.func5, Tryz.ntmps5
    go_wp2_with fail
    go_ret
    exact ⟨rfl, below_new _ _⟩
  · go_enter Tryz.func5, Tryz.ntmps5
    go_wp2_with fail
    go_ret
    exact ⟨rfl, below_new _ _⟩

set_option maxHeartbeats 1000000 in
set_option maxRecDepth 100000 in
theorem bad_else1 (b3 : Bool) (hd : 0 < m2) (h : (b3 = true ∧ ¬ m4 = 1) ∨ (b3 = false ∧ m4 = 1)) :
    Calls Tryz.prog 5 #[.agg #[.int .i64 13, .string t, .string v, .slice A1 m1 c1, .bool tru, .bool asg, .slice A2 m2 c2, .slice A3 m3 c3, .slice A4 m4 c4, .bool b3, .int .i64 num, .bool ex]] w (SaidNo w) := by
  have hd' : decide (0 < m2) = true := by simpa using hd
  rcases h with ⟨rfl, h⟩ | ⟨rfl, rfl⟩
  · have h' : ((m4 : Int) == 1) = false := by simp; omega
    go_enter Tryz.func5, Tryz.ntmps5
    go_wp2_with fail
    go_ret
    exact ⟨rfl, below_new _ _⟩
  · go_enter Tryz.func5, Tryz.ntmps5
    go_wp2_with fail
    go_ret
    exact ⟨rfl, below_new _ _⟩

set_option maxHeartbeats 1000000 in
set_option maxRecDepth 100000 in
theorem bad_more0 (k : Int) (h : 1 < m4) :
    Calls Tryz.prog 5 #[.agg #[.int .i64 k, .string t, .string v, .slice A1 m1 c1, .bool tru, .bool asg, .slice A2 0 c2, .slice A3 m3 c3, .slice A4 m4 c4, .bool false, .int .i64 num, .bool ex]] w (SaidNo w) := by
  have h' : ((m4 : Int) == 1) = false := by simp; omega
  have h2 : (1 : Int) < m4 := by omega
  go_enter Tryz.func5, Tryz.ntmps5
  go_wp2_with fail
  go_ret
  exact ⟨rfl, below_new _ _⟩

set_option maxHeartbeats 1000000 in
set_option maxRecDepth 100000 in
theorem bad_more1 (hd : 0 < m2) (h : 1 < m4) :
    Calls Tryz.prog 5 #[.agg #[.int .i64 13, .string t, .string v, .slice A1 m1 c1, .bool tru, .bool asg, .slice A2 m2 c2, .slice A3 m3 c3, .slice A4 m4 c4, .bool false, .int .i64 num, .bool ex]] w (SaidNo w) := by
  have hd' : decide (0 < m2) = true := by simpa using hd
  have h' : ((m4 : Int) == 1) = false := by simp; omega
  have h2 : (1 : Int) < m4 := by omega
  go_enter Tryz.func5, Tryz.ntmps5
  go_wp2_with fail
  go_ret
  exact ⟨rfl, below_new _ _⟩

set_option maxHeartbeats 1000000 in
set_option maxRecDepth 100000 in
theorem bad_branch0 (k : Int) (h : branchK k = false) :
    Calls Tryz.prog 5 #[.agg #[.int .i64 k, .string t, .string v, .slice A1 m1 c1, .bool tru, .bool asg, .slice A2 0 c2, .slice A3 m3 c3, .slice A4 1 c4, .bool true, .int .i64 num, .bool ex]] w (SaidNo w) := by
  have H := Lib.hid h
  clear h
  go_enter Tryz.func5, Tryz.ntmps5
  go_wp2_with (go_at_call 11; refine (branch_any _ _).mono ?_; rintro e w1 ⟨rfl, rfl⟩; rw [H.out])
  go_ret
  exact ⟨rfl, below_new _ _⟩

set_option maxHeartbeats 1000000 in
set_option maxRecDepth 100000 in
theorem bad_branch1 (hd : 0 < m2) :
    Calls Tryz.prog 5 #[.agg #[.int .i64 13, .string t, .string v, .slice A1 m1 c1, .bool tru, .bool asg, .slice A2 m2 c2, .slice A3 m3 c3, .slice A4 1 c4, .bool true, .int .i64 num, .bool ex]] w (SaidNo w) := by
  have hd' : decide (0 < m2) = true := by simpa using hd
  have H := Lib.hid (show branchK 13 = false from rfl)
  go_enter Tryz.func5, Tryz.ntmps5
  go_wp2_with (go_at_call 11; refine (branch_any _ _).mono ?_; rintro e w1 ⟨rfl, rfl⟩; rw [H.out])
  go_ret
  exact ⟨rfl, below_new _ _⟩
end

theorem SaidNo.post {w : World} {d : Nat} {n : Nd} (e : Ending) (w' : World) (h : SaidNo w e w') : ShapedPost w d n e w' := by
  obtain ⟨rfl, hb⟩ := h
  exact .no hb

/-- spec.Shaped at every node. -/
theorem shaped_any : ∀ (d : Nat) cs n S w, SN w S d cs n → Sm d n → Calls Tryz.prog 5 #[.agg cs.toArray] w (ShapedPost w d n)
  | 0, _, _, _, _, h, _ => h.elim
  | d + 1, cs, n, S, w, h, hs => by
    have ih := shaped_any d
    obtain ⟨s2, s3, s4, hm1⟩ := hs.parts h
    obtain ⟨nv, dv, kv, ev, rfl, h1, h2, h3, h4⟩ := h
    obtain ⟨A1, c1, rfl⟩ := h1.form
    obtain ⟨A2, c2, rfl⟩ := h2.form
    obtain ⟨A3, c3, rfl⟩ := h3.form
    obtain ⟨A4, c4, rfl⟩ := h4.form
    cases n with
    | mk k t v names tru asg decl kids els b3 num ex =>
    simp only [Nd.kind, Nd.text, Nd.value, Nd.names, Nd.tru, Nd.assign, Nd.decl, Nd.kids, Nd.els, Nd.hasElse, Nd.num, Nd.exact] at *
    show Calls _ _ #[.agg #[_, _, _, _, _, _, _, _, _, _, _, _]] _ _
    rcases Nat.eq_zero_or_pos decl.length with hd | hd
    · obtain rfl := List.eq_nil_of_length_eq_zero hd
      simp only [List.length_nil] at *
      cases b3 with
      | false =>
        rcases Nat.lt_trichotomy els.length 1 with he | he | he
        · obtain rfl := List.eq_nil_of_length_eq_zero (by omega : els.length = 0)
          exact shaped_v1 d ih k t v names tru asg kids num ex S w A1 A2 A3 A4 c1 c2 c3 c4 h3 s3 hm1
        · exact (bad_else0 t v _ _ _ tru asg ex num w A1 A2 A3 A4 c1 c2 c3 c4 k false (Or.inr ⟨rfl, he⟩)).mono SaidNo.post
        · exact (bad_more0 t v _ _ _ tru asg ex num w A1 A2 A3 A4 c1 c2 c3 c4 k he).mono SaidNo.post
      | true =>
        by_cases he : els.length = 1
        · cases hb : branchK k with
          | true =>
            match els, he, h4, s4 with
            | [e0], _, h4, s4 => exact shaped_v2 d ih k t v names tru asg kids e0 num ex S w A1 A2 A3 A4 c1 c2 c3 c4 h4 s4 hb h3 s3 hm1
          | false =>
            rw [he]
            exact (bad_branch0 t v _ _ tru asg ex num w A1 A2 A3 A4 c1 c2 c3 c4 k hb).mono SaidNo.post
        · exact (bad_else0 t v _ _ _ tru asg ex num w A1 A2 A3 A4 c1 c2 c3 c4 k true (Or.inl ⟨rfl, he⟩)).mono SaidNo.post
    · by_cases hk : k = 13
      · subst hk
        cases b3 with
        | false =>
          rcases Nat.lt_trichotomy els.length 1 with he | he | he
          · obtain rfl := List.eq_nil_of_length_eq_zero (by omega : els.length = 0)
            exact shaped_v3 d ih t v names tru asg decl kids num ex S w A1 A2 A3 A4 c1 c2 c3 c4 h2 s2 hd h3 s3 hm1
          · exact (bad_else1 t v _ _ _ _ tru asg ex num w A1 A2 A3 A4 c1 c2 c3 c4 false hd (Or.inr ⟨rfl, he⟩)).mono SaidNo.post
          · exact (bad_more1 t v _ _ _ _ tru asg ex num w A1 A2 A3 A4 c1 c2 c3 c4 hd he).mono SaidNo.post
        | true =>
          by_cases he : els.length = 1
          · rw [he]
            exact (bad_branch1 t v _ _ _ tru asg ex num w A1 A2 A3 A4 c1 c2 c3 c4 hd).mono SaidNo.post
          · exact (bad_else1 t v _ _ _ _ tru asg ex num w A1 A2 A3 A4 c1 c2 c3 c4 true hd (Or.inl ⟨rfl, he⟩)).mono SaidNo.post
      · exact (bad_decl t v _ _ _ _ tru asg ex num w A1 A2 A3 A4 c1 c2 c3 c4 k b3 hd hk).mono SaidNo.post

end Go.Proofs.YtiogfkpclkkoaaaGreat
