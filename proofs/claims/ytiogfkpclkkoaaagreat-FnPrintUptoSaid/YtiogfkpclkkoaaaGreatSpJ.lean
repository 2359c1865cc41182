/-
  spec.Print at every well-shaped node.
-/
import Derived.Test.YtiogfkpclkkoaaaGreatSpD
import Derived.Test.YtiogfkpclkkoaaaGreatBuiltJ
set_option linter.unusedVariables false
set_option linter.unusedSimpArgs false
namespace Go.Proofs.YtiogfkpclkkoaaaGreat
open Go.RowKit

theorem print_succ {B d : Nat} (ih : PrintAt B d) : PrintAt B (d + 1) := by
  intro cs n w h hs hp hB
  obtain ⟨s2, s3, s4, hn⟩ := hs.parts h
  obtain ⟨nv, dv, kv, ev, rfl, h1, h2, h3, h4⟩ := h
  have hpp := hp
  obtain ⟨p2, p3, p4, pk⟩ := hp
  cases n with
  | mk k t v names tru asg decl kids els b3 num ex =>
    obtain ⟨A1, c1, rfl⟩ := h1.form
    obtain ⟨A2, c2, rfl⟩ := h2.form
    obtain ⟨A3, c3, rfl⟩ := h3.form
    obtain ⟨A4, c4, rfl⟩ := h4.form
    rcases pk with ⟨hk, e3, nm⟩ | ⟨hk, p, e3, kp⟩ | ⟨hk, e3 | ⟨p, e3, kp⟩⟩ | ⟨hk, nm, p, e3, _⟩ | ⟨hk, _⟩ | ⟨hk, _⟩ | ⟨hk, _⟩ | ⟨hk, p, l, e3, kp, kl, ⟨e5, e4⟩ | ⟨e5, x, e4, kx⟩⟩
    · obtain rfl : kids = [] := e3
      rcases leafK_cases hk with rfl | rfl | rfl | rfl | rfl | rfl | rfl | rfl | rfl | rfl | rfl | rfl
      · exact sp_text B d t v names tru asg decl [] els b3 num ex w A1 A2 A3 A4 c1 c2 c3 c4 hs hpp hB
      · exact sp_comment B d t v names tru asg decl [] els b3 num ex w A1 A2 A3 A4 c1 c2 c3 c4 hs hpp hB
      · exact sp_bool B d t v names tru asg decl [] els b3 num ex w A1 A2 A3 A4 c1 c2 c3 c4 hs hpp hB
      · exact sp_dot B d t v names tru asg decl [] els b3 num ex w A1 A2 A3 A4 c1 c2 c3 c4 hs hpp hB
      · exact sp_ident B d t v names tru asg decl [] els b3 num ex w A1 A2 A3 A4 c1 c2 c3 c4 hs hpp hB
      · exact sp_nil B d t v names tru asg decl [] els b3 num ex w A1 A2 A3 A4 c1 c2 c3 c4 hs hpp hB
      · exact sp_num B d t v names tru asg decl [] els b3 num ex w A1 A2 A3 A4 c1 c2 c3 c4 hs hpp hB
      · exact sp_str B d t v names tru asg decl [] els b3 num ex w A1 A2 A3 A4 c1 c2 c3 c4 hs hpp hB
      · exact sp_brk B d t v names tru asg decl [] els b3 num ex w A1 A2 A3 A4 c1 c2 c3 c4 hs hpp hB
      · exact sp_cont B d t v names tru asg decl [] els b3 num ex w A1 A2 A3 A4 c1 c2 c3 c4 hs hpp hB
      · exact sp_field B d t v names tru asg decl [] els b3 num ex w A1 A2 A3 A4 c1 c2 c3 c4 h1 hn (nm (Or.inl rfl)) hs hpp hB
      · exact sp_var B d t v names tru asg decl [] els b3 num ex w A1 A2 A3 A4 c1 c2 c3 c4 h1 hn hs hpp hB
    · obtain rfl : kids = [p] := e3
      obtain rfl : k = 2 := hk
      exact sp_action B d p ih t v names tru asg decl els b3 num ex w A1 A2 A3 A4 c1 c2 c3 c4 h3 (s3.2 _ (List.mem_singleton.2 rfl)) (p3 _ (List.mem_singleton.2 rfl)) hs hpp hB
    · obtain rfl : kids = [] := e3
      obtain rfl : k = 16 := hk
      exact sp_tpl0 B d t v names tru asg decl els b3 num ex w A1 A2 A3 A4 c1 c2 c3 c4 hs hpp hB
    · obtain rfl : kids = [p] := e3
      obtain rfl : k = 16 := hk
      exact sp_tpl1 B d p ih t v names tru asg decl els b3 num ex w A1 A2 A3 A4 c1 c2 c3 c4 h3 (s3.2 _ (List.mem_singleton.2 rfl)) (p3 _ (List.mem_singleton.2 rfl)) hs hpp hB
    · obtain rfl : kids = [p] := e3
      obtain rfl : k = 4 := hk
      exact sp_chain B d p ih t v names tru asg decl els b3 num ex w A1 A2 A3 A4 c1 c2 c3 c4 h1 hn (nm (Or.inr rfl)) h3 (s3.2 _ (List.mem_singleton.2 rfl)) (p3 _ (List.mem_singleton.2 rfl)) hs hpp hB
    · obtain rfl : k = 5 := hk
      exact sp_command B d ih t v names tru asg decl kids els b3 num ex w A1 A2 A3 A4 c1 c2 c3 c4 h3 s3 p3 hs hpp hB
    · obtain rfl : k = 13 := hk
      cases decl with
      | nil => exact sp_pipe0 B d ih t v names tru asg [] kids els b3 num ex w A1 A2 A3 A4 c1 c2 c3 c4 h3 s3 p3 rfl hs hpp hB
      | cons a r => exact sp_pipe1 B d ih t v names tru asg (a :: r) kids els b3 num ex w A1 A2 A3 A4 c1 c2 c3 c4 h3 s3 p3 h2 s2 p2 (by simp) hs hpp hB
    · obtain rfl : k = 10 := hk
      exact sp_list B d ih t v names tru asg decl kids els b3 num ex w A1 A2 A3 A4 c1 c2 c3 c4 h3 s3 p3 hs hpp hB
    · obtain rfl : kids = [p, l] := e3
      obtain rfl : b3 = false := e5
      obtain rfl : els = [] := e4
      have sp := s3.2 p (by simp [Nd.kids])
      have sl := s3.2 l (by simp [Nd.kids])
      have qp := p3 p (by simp [Nd.kids])
      have ql := p3 l (by simp [Nd.kids])
      rcases hk with hk | hk | hk
      · obtain rfl : k = 9 := hk
        exact sp_if0 B d p l ih t v names tru asg decl num ex w A1 A2 A3 A4 c1 c2 c3 c4 h3 sp qp sl ql hs hpp hB
      · obtain rfl : k = 14 := hk
        exact sp_range0 B d p l ih t v names tru asg decl num ex w A1 A2 A3 A4 c1 c2 c3 c4 h3 sp qp sl ql hs hpp hB
      · obtain rfl : k = 18 := hk
        exact sp_with0 B d p l ih t v names tru asg decl num ex w A1 A2 A3 A4 c1 c2 c3 c4 h3 sp qp sl ql hs hpp hB
    · obtain rfl : kids = [p, l] := e3
      obtain rfl : b3 = true := e5
      obtain rfl : els = [x] := e4
      have sp := s3.2 p (by simp [Nd.kids])
      have sl := s3.2 l (by simp [Nd.kids])
      have sx := s4.2 x (by simp [Nd.els])
      have qp := p3 p (by simp [Nd.kids])
      have ql := p3 l (by simp [Nd.kids])
      have qx := p4 x (by simp [Nd.els])
      rcases hk with hk | hk | hk
      · obtain rfl : k = 9 := hk
        exact sp_if1 B d p l x ih t v names tru asg decl num ex w A1 A2 A3 A4 c1 c2 c3 c4 h3 sp qp sl ql h4 sx qx hs hpp hB
      · obtain rfl : k = 14 := hk
        exact sp_range1 B d p l x ih t v names tru asg decl num ex w A1 A2 A3 A4 c1 c2 c3 c4 h3 sp qp sl ql h4 sx qx hs hpp hB
      · obtain rfl : k = 18 := hk
        exact sp_with1 B d p l x ih t v names tru asg decl num ex w A1 A2 A3 A4 c1 c2 c3 c4 h3 sp qp sl ql h4 sx qx hs hpp hB

/-- spec.Print returns what a node prints. -/
theorem print_any (B : Nat) : ∀ d, PrintAt B d
  | 0 => fun _ _ _ h => h.elim
  | d + 1 => print_succ (print_any B d)

end Go.Proofs.YtiogfkpclkkoaaaGreat
