/-
  parse.zzTree at every node, and parse.ZZTree.
-/
import Derived.Test.YtiogfkpclkkoaaaGreatZzB
import Derived.Test.YtiogfkpclkkoaaaGreatZzC
set_option linter.unusedVariables false
set_option linter.unusedSimpArgs false
namespace Go.Proofs.YtiogfkpclkkoaaaGreat
open Go.RowKit

theorem PN.wt_pos {w : World} {base : Nat} {S : Nat → Prop} {tr : Value → Prop} : ∀ {d b n}, PN w base S tr d b n → 1 ≤ wt d n
  | 0, _, _, h => h.elim
  | _ + 1, _, _, _ => by simp only [wt]; omega
theorem RowP.all {w : World} {S : Nat → Prop} {E : TypeId} {f : Nd → Nat → Value} {sub : Nat → Nd → Prop} {v : Value} {l : List Nd} (h : RowP w S E f sub v l) {q : Nd → Prop} (hq : ∀ b a, sub b a → q a) : ∀ a ∈ l, q a := by
  intro a ha
  obtain ⟨i, hi, rfl⟩ := List.getElem_of_mem ha
  rcases h with ⟨_, rfl⟩ | ⟨g, cap, cur, _, _, _, hc⟩
  · cases ha
  · obtain ⟨b, _, h2⟩ := hc i hi
    exact hq _ _ h2
theorem Sm.kids {d : Nat} {n : Nd} (h : Sm (d + 1) n) (hp : ∀ a ∈ n.kids, 1 ≤ wt d a) : Sms d n.kids := by
  simp only [Sm, wt] at h
  exact .of (by omega) hp
theorem Sm.decl {d : Nat} {n : Nd} (h : Sm (d + 1) n) (hp : ∀ a ∈ n.decl, 1 ≤ wt d a) : Sms d n.decl := by
  simp only [Sm, wt] at h
  exact .of (by omega) hp
theorem Sm.kid {d : Nat} {n a : Nd} (h : Sm (d + 1) n) (ha : a ∈ n.kids) : Sm d a := by
  simp only [Sm, wt] at h ⊢
  have := sum_le_of_mem (wt d) ha
  omega
theorem Sm.els {d : Nat} {n a : Nd} (h : Sm (d + 1) n) (ha : a ∈ n.els) : Sm d a := by
  simp only [Sm, wt] at h ⊢
  have := sum_le_of_mem (wt d) ha
  omega

theorem zz_all (base : Nat) (T : Option Addr) (S : Nat → Prop) : ∀ d, ZzAt base T S d
  | 0 => fun _ _ _ h => h.elim
  | d + 1 => by
    intro b n w h hs
    have ih := zz_all base T S d
    obtain ⟨h1, h2, trv, E, cs, ⟨p, rfl⟩, hh, hbody⟩ := h
    cases hbody with
    | text k hb => exact zz_text k hb h1 h2 hh
    | comment k => exact zz_comment k h1 h2 hh
    | bool k => exact zz_bool k h1 h2 hh
    | dot k => exact zz_dot k h1 h2 hh
    | field k hn => exact zz_field k hn h1 h2 hh
    | ident k => exact zz_ident k h1 h2 hh
    | nil k => exact zz_nil k h1 h2 hh
    | num k b1 b2 b3 b4 x y f re im => exact zz_num k b1 b2 b3 b4 x y f re im h1 h2 hh
    | str k => exact zz_str k h1 h2 hh
    | var k hn => exact zz_var k hn h1 h2 hh
    | brk k => exact zz_brk k h1 h2 hh
    | cont k => exact zz_cont k h1 h2 hh
    | action k hk hp hq => exact zz_action ih (hs.kid (by rw [hk]; simp)) k hk hp hq h1 h2 hh
    | tpl0 k hk => exact zz_tpl0 k hk h1 h2 hh
    | tpl1 k hk hp hq => exact zz_tpl1 ih (hs.kid (by rw [hk]; simp)) k hk hp hq h1 h2 hh
    | pipe k hd hk rd rk =>
      have sd := hs.decl (rd.all fun _ _ h => h.wt_pos)
      have sk := hs.kids (rk.all fun _ _ h => h.wt_pos)
      exact zz_pipe ih k hd hk rd rk sd.1 sk.1 sk.2 sd.2 h1 h2 hh
    | command k rk =>
      have sk := hs.kids (rk.all fun _ _ h => h.wt_pos)
      exact zz_command ih k rk sk.1 sk.2 h1 h2 hh
    | list k rk =>
      have sk := hs.kids (rk.all fun _ _ h => h.wt_pos)
      exact zz_list ih k rk sk.1 sk.2 h1 h2 hh
    | chain k hk hq hn => exact zz_chain ih (hs.kid (by rw [hk]; simp)) k hk hq hn h1 h2 hh
    | branch0 k hk he hp hl sp sl =>
      have zq := hs.kid (a := _) (by rw [hk]; exact List.mem_cons_self)
      have zl := hs.kid (a := _) (by rw [hk]; exact List.mem_cons_of_mem _ List.mem_cons_self)
      rcases k with ⟨k, rfl, rfl⟩ | ⟨k, rfl, rfl⟩ | ⟨k, rfl, rfl⟩
      · exact zz_if0 ih zq zl k hk he hp hl sp sl h1 h2 hh
      · exact zz_range0 ih zq zl k hk he hp hl sp sl h1 h2 hh
      · exact zz_with0 ih zq zl k hk he hp hl sp sl h1 h2 hh
    | branch1 k hk he hels hp hl hle sp sl se =>
      have zq := hs.kid (a := _) (by rw [hk]; exact List.mem_cons_self)
      have zl := hs.kid (a := _) (by rw [hk]; exact List.mem_cons_of_mem _ List.mem_cons_self)
      have zx := hs.els (a := _) (by rw [hels]; exact List.mem_cons_self)
      rcases k with ⟨k, rfl, rfl⟩ | ⟨k, rfl, rfl⟩ | ⟨k, rfl, rfl⟩
      · exact zz_if1 ih zq zl zx k hk he hels hp hl hle sp sl se h1 h2 hh
      · exact zz_range1 ih zq zl zx k hk he hels hp hl hle sp sl se h1 h2 hh
      · exact zz_with1 ih zq zl zx k hk he hels hp hl hle sp sl se h1 h2 hh

end Go.Proofs.YtiogfkpclkkoaaaGreat
