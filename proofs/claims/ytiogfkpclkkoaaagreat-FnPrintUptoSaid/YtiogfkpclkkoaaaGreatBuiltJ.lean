/-
  impl.built at every node whose parts fit its kind.
-/
import Derived.Test.YtiogfkpclkkoaaaGreatBuiltC
set_option linter.unusedVariables false
set_option linter.unusedSimpArgs false
namespace Go.Proofs.YtiogfkpclkkoaaaGreat
open Go.RowKit

theorem leafK_cases {k : Int} (h : leafK k = true) : k = 1 ∨ k = 19 ∨ k = 3 ∨ k = 6 ∨ k = 8 ∨ k = 11 ∨ k = 12 ∨ k = 15 ∨ k = 20 ∨ k = 21 ∨ k = 7 ∨ k = 17 := by
  simp only [leafK, Bool.or_eq_true, beq_iff_eq] at h
  omega

theorem ShpK.pipe {n : Nd} (h : ShpK n) (hk : n.kind = 13) : (∀ p ∈ n.kids, p.kind = 5) ∧ ∀ p ∈ n.decl, p.kind = 17 := by
  unfold ShpK at h
  rw [hk] at h
  rcases h with h | h | h | h | h | h | h | h
  · exact absurd h.1 (by decide)
  · omega
  · omega
  · omega
  · omega
  · exact h.2
  · omega
  · omega

theorem pipeAt_succ {B d : Nat} (ih : BuiltAt B d) : PipeAt B (d + 1) := by
  intro cs n w h hs hp hk hB
  obtain ⟨s2, s3, s4, _⟩ := hs.partsI h
  obtain ⟨nv, dv, kv, ev, rfl, h1, h2, h3, h4⟩ := h
  obtain ⟨p2, p3, p4, pk⟩ := hp
  obtain ⟨q3, q2⟩ := pk.pipe hk
  cases n with
  | mk k t v names tru asg decl kids els b3 num ex =>
    obtain rfl : k = 13 := hk
    exact pipe_step B d ih t v names tru asg decl kids els b3 num ex w nv dv kv ev h2 h3 s2 s3 p2 p3 q2 q3 h1 h4 hB

theorem listAt_succ {B d : Nat} (ih : BuiltAt B d) : ListAt B (d + 1) := by
  intro cs n w h hs hp hk hB
  obtain ⟨s2, s3, s4, _⟩ := hs.partsI h
  obtain ⟨nv, dv, kv, ev, rfl, h1, h2, h3, h4⟩ := h
  obtain ⟨p2, p3, p4, pk⟩ := hp
  cases n with
  | mk k t v names tru asg decl kids els b3 num ex =>
    obtain rfl : k = 10 := hk
    obtain ⟨A1, c1, rfl⟩ := h1.form
    obtain ⟨A2, c2, rfl⟩ := h2.form
    obtain ⟨A3, c3, rfl⟩ := h3.form
    obtain ⟨A4, c4, rfl⟩ := h4.form
    exact list_step B d ih t v names tru asg decl kids els b3 num ex w A1 A2 A3 A4 _ _ _ c1 c2 c3 c4 h3 s3 p3 hB

theorem builtAt_succ {B d : Nat} (ih : BuiltAt B d) (ihp : PipeAt B d) (ihl : ListAt B d) : BuiltAt B (d + 1) := by
  have jp : PipeAt B (d + 1) := pipeAt_succ ih
  have jl : ListAt B (d + 1) := listAt_succ ih
  intro cs n w h hs hp hB
  obtain ⟨s2, s3, s4, _⟩ := hs.partsI h
  have hh := h
  obtain ⟨nv, dv, kv, ev, rfl, h1, h2, h3, h4⟩ := h
  have hpp := hp
  obtain ⟨p2, p3, p4, pk⟩ := hp
  cases n with
  | mk k t v names tru asg decl kids els b3 num ex =>
    obtain ⟨A1, c1, rfl⟩ := h1.form
    obtain ⟨A2, c2, rfl⟩ := h2.form
    obtain ⟨A3, c3, rfl⟩ := h3.form
    obtain ⟨A4, c4, rfl⟩ := h4.form
    rcases pk with ⟨hk, e3, _⟩ | ⟨hk, p, e3, kp⟩ | ⟨hk, e3 | ⟨p, e3, kp⟩⟩ | ⟨hk, _, p, e3, _⟩ | ⟨hk, _⟩ | ⟨hk, _⟩ | ⟨hk, _⟩ | ⟨hk, p, l, e3, kp, kl, ⟨e5, e4⟩ | ⟨e5, x, e4, kx⟩⟩
    · obtain rfl : kids = [] := e3
      rcases leafK_cases hk with rfl | rfl | rfl | rfl | rfl | rfl | rfl | rfl | rfl | rfl | rfl | rfl
      · exact built_text B d t v names tru asg decl els b3 num ex w A1 A2 A3 A4 _ _ c1 c2 c3 c4 hB h1
      · exact built_comment B d t v names tru asg decl els b3 num ex w A1 A2 A3 A4 _ _ c1 c2 c3 c4 hB h1
      · exact built_bool B d t v names tru asg decl els b3 num ex w A1 A2 A3 A4 _ _ c1 c2 c3 c4 hB h1
      · exact built_dot B d t v names tru asg decl els b3 num ex w A1 A2 A3 A4 _ _ c1 c2 c3 c4 hB h1
      · exact built_ident B d t v names tru asg decl els b3 num ex w A1 A2 A3 A4 _ _ c1 c2 c3 c4 hB h1
      · exact built_nil B d t v names tru asg decl els b3 num ex w A1 A2 A3 A4 _ _ c1 c2 c3 c4 hB h1
      · exact built_num B d t v names tru asg decl els b3 num ex w A1 A2 A3 A4 _ _ c1 c2 c3 c4 hB h1
      · exact built_str B d t v names tru asg decl els b3 num ex w A1 A2 A3 A4 _ _ c1 c2 c3 c4 hB h1
      · exact built_brk B d t v names tru asg decl els b3 num ex w A1 A2 A3 A4 _ _ c1 c2 c3 c4 hB h1
      · exact built_cont B d t v names tru asg decl els b3 num ex w A1 A2 A3 A4 _ _ c1 c2 c3 c4 hB h1
      · exact built_field B d t v names tru asg decl els b3 num ex w A1 A2 A3 A4 _ _ c1 c2 c3 c4 hB h1
      · exact built_var B d t v names tru asg decl els b3 num ex w A1 A2 A3 A4 _ _ c1 c2 c3 c4 hB h1
    · obtain rfl : kids = [p] := e3
      obtain rfl : k = 2 := hk
      exact built_action B d ihp t v names tru asg decl p els b3 num ex w A1 A2 A3 A4 _ _ c1 c2 c3 c4 hB h1 h3 (s3.2 _ (List.mem_singleton.2 rfl)) (p3 _ (List.mem_singleton.2 rfl)) kp
    · obtain rfl : kids = [] := e3
      obtain rfl : k = 16 := hk
      exact built_tpl0 B d t v names tru asg decl els b3 num ex w A1 A2 A3 A4 _ _ c1 c2 c3 c4 hB h1
    · obtain rfl : kids = [p] := e3
      obtain rfl : k = 16 := hk
      exact built_tpl1 B d ihp t v names tru asg decl p els b3 num ex w A1 A2 A3 A4 _ _ c1 c2 c3 c4 hB h1 h3 (s3.2 _ (List.mem_singleton.2 rfl)) (p3 _ (List.mem_singleton.2 rfl)) kp
    · obtain rfl : kids = [p] := e3
      obtain rfl : k = 4 := hk
      exact built_chain B d ih t v names tru asg decl p els b3 num ex w A1 A2 A3 A4 _ _ c1 c2 c3 c4 hB h1 h3 s3 p3
    · obtain rfl : k = 5 := hk
      exact built_command B d ih t v names tru asg decl kids els b3 num ex w A1 A2 A3 A4 _ _ c1 c2 c3 c4 hB h1 h3 s3 p3
    · obtain rfl : k = 13 := hk
      exact built_pipe B d jp t v names tru asg decl kids els b3 num ex w A1 A2 A3 A4 0 0 c1 c2 c3 c4 hB h1 hh hs hpp
    · obtain rfl : k = 10 := hk
      exact built_list B d jl t v names tru asg decl kids els b3 num ex w A1 A2 A3 A4 0 0 c1 c2 c3 c4 hB h1 hh hs hpp
    · obtain rfl : kids = [p, l] := e3
      obtain rfl : b3 = false := e5
      obtain rfl : els = [] := e4
      have sp := s3.2 p (by simp [Nd.kids])
      have sl := s3.2 l (by simp [Nd.kids])
      have qp := p3 p (by simp [Nd.kids])
      have ql := p3 l (by simp [Nd.kids])
      rcases hk with hk | hk | hk
      · obtain rfl : k = 9 := hk
        exact built_if0 B d ihp ihl t v names tru asg decl p l num ex w A1 A2 A3 A4 _ c1 c2 c3 c4 hB h1 h3 sp sl qp ql kp kl
      · obtain rfl : k = 14 := hk
        exact built_range0 B d ihp ihl t v names tru asg decl p l num ex w A1 A2 A3 A4 _ c1 c2 c3 c4 hB h1 h3 sp sl qp ql kp kl
      · obtain rfl : k = 18 := hk
        exact built_with0 B d ihp ihl t v names tru asg decl p l num ex w A1 A2 A3 A4 _ c1 c2 c3 c4 hB h1 h3 sp sl qp ql kp kl
    · obtain rfl : kids = [p, l] := e3
      obtain rfl : b3 = true := e5
      obtain rfl : els = [x] := e4
      have sp := s3.2 p (by simp [Nd.kids])
      have sl := s3.2 l (by simp [Nd.kids])
      have sx := s4.2 x (by simp [Nd.els])
      have qp := p3 p (by simp [Nd.kids])
      have ql := p3 l (by simp [Nd.kids])
      have qx := p4 x (by simp [Nd.els])
      rcases hk with hk | hk | hk
      · obtain rfl : k = 9 := hk
        exact built_if1 B d ihp ihl t v names tru asg decl p l x num ex w A1 A2 A3 A4 _ c1 c2 c3 c4 hB h1 h3 h4 sp sl sx qp ql qx kp kl kx
      · obtain rfl : k = 14 := hk
        exact built_range1 B d ihp ihl t v names tru asg decl p l x num ex w A1 A2 A3 A4 _ c1 c2 c3 c4 hB h1 h3 h4 sp sl sx qp ql qx kp kl kx
      · obtain rfl : k = 18 := hk
        exact built_with1 B d ihp ihl t v names tru asg decl p l x num ex w A1 A2 A3 A4 _ c1 c2 c3 c4 hB h1 h3 h4 sp sl sx qp ql qx kp kl kx

theorem built_all (B : Nat) : ∀ d, BuiltAt B d ∧ PipeAt B d ∧ ListAt B d
  | 0 => ⟨fun _ _ _ h => h.elim, fun _ _ _ h => h.elim, fun _ _ _ h => h.elim⟩
  | d + 1 =>
    let ⟨ih, ihp, ihl⟩ := built_all B d
    ⟨builtAt_succ ih ihp ihl, pipeAt_succ ih, listAt_succ ih⟩

/-- impl.built hands back a node of the package. -/
theorem built_any (B d : Nat) : BuiltAt B d := (built_all B d).1

end Go.Proofs.YtiogfkpclkkoaaaGreat
