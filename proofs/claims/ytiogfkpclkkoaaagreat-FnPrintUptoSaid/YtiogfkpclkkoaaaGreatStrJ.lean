/-
  The writer of every node. Printed by py/strj.py.
  The text of every node. Printed by py/strj.py.
-/
import Derived.Test.YtiogfkpclkkoaaaGreatWrP
import Derived.Test.YtiogfkpclkkoaaaGreatWrD
import Derived.Test.YtiogfkpclkkoaaaGreatZzJ
set_option linter.unusedVariables false
set_option linter.unusedSimpArgs false
namespace Go.Proofs.YtiogfkpclkkoaaaGreat
open Go.RowKit

theorem ba_eq {s : ByteArray} {x : List UInt8} (h : s.data.toList = x) : s = ⟨x.toArray⟩ := by
  subst h
  cases s
  simp
theorem Nmd.kid {d : Nat} {n a : Nd} (h : Nmd (d + 1) n) (ha : a ∈ n.kids) : Nmd d a := h.2.1 a ha

theorem wr_any (B bt sb : Nat) : ∀ d, WrAt B bt sb d
  | 0 => fun _ _ _ _ h => h.elim
  | d + 1 => by
    intro b n l w h hn hs he hl
    have ih := wr_any B bt sb d
    have hbB : b < B := h.2.1
    obtain ⟨h1, h2, trv, E, cs, rfl, hh, hbody⟩ := h
    cases hbody with
    | text k hb => rw [k]; exact wr_text k hb hh he hl
    | comment k => rw [k]; exact wr_comment k hbB hh he hl
    | bool k => rw [k]; exact wr_bool k hh he hl
    | dot k => rw [k]; exact wr_dot k hh he hl
    | field k hx => rw [k]; exact wr_field k hx hs.names hh he hl
    | ident k => rw [k]; exact wr_ident k hh he hl
    | nil k => rw [k]; exact wr_nil k hh he hl
    | num k b1 b2 b3 b4 x y f re im => rw [k]; exact wr_num k b1 b2 b3 b4 x y f re im hh he hl
    | str k => rw [k]; exact wr_str k hh he hl
    | var k hx => rw [k]; exact wr_var k hx hs.names hh he hl
    | brk k => rw [k]; exact wr_brk k hh he hl
    | cont k => rw [k]; exact wr_cont k hh he hl
    | action k hk hp hq => rw [k]; exact wr_action ih k hk hq hp (hn.kid (by rw [hk]; simp)) (hs.kid (by rw [hk]; simp)) hbB hh he hl
    | tpl0 k hk => rw [k]; exact wr_tpl0 k hk (hn.1 k) (by simp only [Sm, wt] at hs; omega) hbB hh he hl
    | tpl1 k hk hp hq => rw [k]; exact wr_tpl1 ih k hk hq hp (hn.kid (by rw [hk]; simp)) (hs.kid (by rw [hk]; simp)) (hn.1 k) (by simp only [Sm, wt] at hs; omega) hbB hh he hl
    | pipe k hd hk rd rk =>
      have sd := hs.decl (rd.all fun _ _ h => h.wt_pos)
      have sk := hs.kids (rk.all fun _ _ h => h.wt_pos)
      rw [k]
      cases hdl : n.decl with
      | nil => exact wr_pipe0 ih k hd hk rd rk hdl sd.1 sk.1 hn.2.1 sk.2 sd.2 hbB hh he hl
      | cons a r => exact wr_pipe1 ih k hd hk rd rk (by rw [hdl]; simp) sd.1 sk.1 hn.2.1 sk.2 sd.2 hbB hh he hl
    | command k rk =>
      have sk := hs.kids (rk.all fun _ _ h => h.wt_pos)
      rw [k]
      exact wr_command ih k rk sk.1 hn.2.1 sk.2 hh he hl
    | list k rk =>
      have sk := hs.kids (rk.all fun _ _ h => h.wt_pos)
      rw [k]
      exact wr_list ih k rk sk.1 hn.2.1 sk.2 hh he hl
    | @chain k p _ _ hk hq hx =>
      have hm : p ∈ n.kids := by rw [hk]; simp
      rw [k]
      by_cases hp : p.kind = 13
      · exact wr_chain_pipe ih k hk hq hp (hn.kid hm) (hs.kid hm) hx hs.names hbB hh he hl
      · exact wr_chain_arg ih k hk hq hp (hn.kid hm) (hs.kid hm) hx hs.names hbB hh he hl
    | @branch0 _ _ k p l' _ _ hk hel hp hl' sp sl =>
      have mp : p ∈ n.kids := by rw [hk]; exact List.mem_cons_self
      have ml : l' ∈ n.kids := by rw [hk]; exact List.mem_cons_of_mem _ List.mem_cons_self
      rcases k with ⟨k, rfl, rfl⟩ | ⟨k, rfl, rfl⟩ | ⟨k, rfl, rfl⟩ <;> rw [k]
      · exact wr_if0 ih k hk hel sp hp (hn.kid mp) (hs.kid mp) sl hl' (hn.kid ml) (hs.kid ml) hbB hh he hl
      · exact wr_range0 ih k hk hel sp hp (hn.kid mp) (hs.kid mp) sl hl' (hn.kid ml) (hs.kid ml) hbB hh he hl
      · exact wr_with0 ih k hk hel sp hp (hn.kid mp) (hs.kid mp) sl hl' (hn.kid ml) (hs.kid ml) hbB hh he hl
    | @branch1 _ _ k p l' e _ _ _ hk hel hels hp hl' hle sp sl se =>
      have mp : p ∈ n.kids := by rw [hk]; exact List.mem_cons_self
      have ml : l' ∈ n.kids := by rw [hk]; exact List.mem_cons_of_mem _ List.mem_cons_self
      have me : e ∈ n.els := by rw [hels]; exact List.mem_cons_self
      rcases k with ⟨k, rfl, rfl⟩ | ⟨k, rfl, rfl⟩ | ⟨k, rfl, rfl⟩ <;> rw [k]
      · exact wr_if1 ih k hk hel hels sp hp (hn.kid mp) (hs.kid mp) sl hl' (hn.kid ml) (hs.kid ml) se hle (hn.2.2 e me) (hs.els me) hbB hh he hl
      · exact wr_range1 ih k hk hel hels sp hp (hn.kid mp) (hs.kid mp) sl hl' (hn.kid ml) (hs.kid ml) se hle (hn.2.2 e me) (hs.els me) hbB hh he hl
      · exact wr_with1 ih k hk hel hels sp hp (hn.kid mp) (hs.kid mp) sl hl' (hn.kid ml) (hs.kid ml) se hle (hn.2.2 e me) (hs.els me) hbB hh he hl

end Go.Proofs.YtiogfkpclkkoaaaGreat

set_option linter.unusedVariables false
set_option linter.unusedSimpArgs false
namespace Go.Proofs.YtiogfkpclkkoaaaGreat
open Go.RowKit

def StrDone (w : World) (l : List UInt8) (e : Ending) (w' : World) : Prop := e = .returned (.string ⟨l.toArray⟩) ∧ Below w.heap.size w w'
/-- A builder of the call's own, fresh. -/
def sbNew (w : World) : World := w.alloc (.cells #[.pointer none, .slice none 0 0] 167)
theorem StrPost.done {w w' : World} {s : ByteArray} {e : Ending} {l : List UInt8} (h : StrPost w s e w') (hs : s.data.toList = l) : StrDone w l e w' := by
  obtain ⟨rfl, h⟩ := h
  refine ⟨by rw [ba_eq hs], ?_⟩
  rcases h with rfl | rfl
  · exact Below.refl _ _
  · exact (Below.refl _ _).drew
theorem WrPost.later {B bt sb : Nat} {l : List UInt8} {e : Ending} {w w' : World} (h : WrPost B bt sb w l e w') : e = .returned (.tuple #[]) ∧ SB B sb l w' ∧ B ≤ w'.heap.size ∧ Below B w w' := ⟨h.1, h.2.1.1, h.2.1.2.1, h.2.2⟩

set_option maxHeartbeats 1000000 in
set_option maxRecDepth 100000 in
theorem strb_comment {bt b : Nat} {l : List UInt8} {w : World} (hc : Calls Tryz.prog 56 #[.pointer (some ⟨b, 0, none⟩), .pointer (some ⟨w.heap.size, 0, none⟩)] (sbNew w) (WrPost w.heap.size bt w.heap.size (sbNew w) l)) :
    Calls Tryz.prog 54 #[.pointer (some ⟨b, 0, none⟩)] w (StrDone w l) := by
  have HC := Lib.hid hc
  clear hc
  go_enter Tryz.func54, Tryz.ntmps54
  go_wp2_with fail
  refine Calls.mono HC.out ?_
  intro e w1 hp
  have hq := hp.later
  clear hp
  obtain ⟨rfl, hs, hz, hb⟩ := hq
  have hd := sb_done _ _ _ _ hs hz
  have HD := Lib.hid hd
  have HB := Lib.hid hb
  clear hs hz hb hd
  go_wp2_with fail
  refine Calls.mono HD.out ?_
  rintro e w2 ⟨rfl, hb2⟩
  have HB2 := Lib.hid (HB.out.trans hb2)
  clear hb2
  go_wp2
  go_ret
  exact ⟨rfl, (below_new _ _).trans HB2.out⟩

set_option maxHeartbeats 1000000 in
set_option maxRecDepth 100000 in
theorem strb_field {bt b : Nat} {l : List UInt8} {w : World} (hc : Calls Tryz.prog 73 #[.pointer (some ⟨b, 0, none⟩), .pointer (some ⟨w.heap.size, 0, none⟩)] (sbNew w) (WrPost w.heap.size bt w.heap.size (sbNew w) l)) :
    Calls Tryz.prog 71 #[.pointer (some ⟨b, 0, none⟩)] w (StrDone w l) := by
  have HC := Lib.hid hc
  clear hc
  go_enter Tryz.func71, Tryz.ntmps71
  go_wp2_with fail
  refine Calls.mono HC.out ?_
  intro e w1 hp
  have hq := hp.later
  clear hp
  obtain ⟨rfl, hs, hz, hb⟩ := hq
  have hd := sb_done _ _ _ _ hs hz
  have HD := Lib.hid hd
  have HB := Lib.hid hb
  clear hs hz hb hd
  go_wp2_with fail
  refine Calls.mono HD.out ?_
  rintro e w2 ⟨rfl, hb2⟩
  have HB2 := Lib.hid (HB.out.trans hb2)
  clear hb2
  go_wp2
  go_ret
  exact ⟨rfl, (below_new _ _).trans HB2.out⟩

set_option maxHeartbeats 1000000 in
set_option maxRecDepth 100000 in
theorem strb_var {bt b : Nat} {l : List UInt8} {w : World} (hc : Calls Tryz.prog 96 #[.pointer (some ⟨b, 0, none⟩), .pointer (some ⟨w.heap.size, 0, none⟩)] (sbNew w) (WrPost w.heap.size bt w.heap.size (sbNew w) l)) :
    Calls Tryz.prog 94 #[.pointer (some ⟨b, 0, none⟩)] w (StrDone w l) := by
  have HC := Lib.hid hc
  clear hc
  go_enter Tryz.func94, Tryz.ntmps94
  go_wp2_with fail
  refine Calls.mono HC.out ?_
  intro e w1 hp
  have hq := hp.later
  clear hp
  obtain ⟨rfl, hs, hz, hb⟩ := hq
  have hd := sb_done _ _ _ _ hs hz
  have HD := Lib.hid hd
  have HB := Lib.hid hb
  clear hs hz hb hd
  go_wp2_with fail
  refine Calls.mono HD.out ?_
  rintro e w2 ⟨rfl, hb2⟩
  have HB2 := Lib.hid (HB.out.trans hb2)
  clear hb2
  go_wp2
  go_ret
  exact ⟨rfl, (below_new _ _).trans HB2.out⟩

set_option maxHeartbeats 1000000 in
set_option maxRecDepth 100000 in
theorem strb_pipe {bt b : Nat} {l : List UInt8} {w : World} (hc : Calls Tryz.prog 108 #[.pointer (some ⟨b, 0, none⟩), .pointer (some ⟨w.heap.size, 0, none⟩)] (sbNew w) (WrPost w.heap.size bt w.heap.size (sbNew w) l)) :
    Calls Tryz.prog 106 #[.pointer (some ⟨b, 0, none⟩)] w (StrDone w l) := by
  have HC := Lib.hid hc
  clear hc
  go_enter Tryz.func106, Tryz.ntmps106
  go_wp2_with fail
  refine Calls.mono HC.out ?_
  intro e w1 hp
  have hq := hp.later
  clear hp
  obtain ⟨rfl, hs, hz, hb⟩ := hq
  have hd := sb_done _ _ _ _ hs hz
  have HD := Lib.hid hd
  have HB := Lib.hid hb
  clear hs hz hb hd
  go_wp2_with fail
  refine Calls.mono HD.out ?_
  rintro e w2 ⟨rfl, hb2⟩
  have HB2 := Lib.hid (HB.out.trans hb2)
  clear hb2
  go_wp2
  go_ret
  exact ⟨rfl, (below_new _ _).trans HB2.out⟩

set_option maxHeartbeats 1000000 in
set_option maxRecDepth 100000 in
theorem strb_action {bt b : Nat} {l : List UInt8} {w : World} (hc : Calls Tryz.prog 113 #[.pointer (some ⟨b, 0, none⟩), .pointer (some ⟨w.heap.size, 0, none⟩)] (sbNew w) (WrPost w.heap.size bt w.heap.size (sbNew w) l)) :
    Calls Tryz.prog 111 #[.pointer (some ⟨b, 0, none⟩)] w (StrDone w l) := by
  have HC := Lib.hid hc
  clear hc
  go_enter Tryz.func111, Tryz.ntmps111
  go_wp2_with fail
  refine Calls.mono HC.out ?_
  intro e w1 hp
  have hq := hp.later
  clear hp
  obtain ⟨rfl, hs, hz, hb⟩ := hq
  have hd := sb_done _ _ _ _ hs hz
  have HD := Lib.hid hd
  have HB := Lib.hid hb
  clear hs hz hb hd
  go_wp2_with fail
  refine Calls.mono HD.out ?_
  rintro e w2 ⟨rfl, hb2⟩
  have HB2 := Lib.hid (HB.out.trans hb2)
  clear hb2
  go_wp2
  go_ret
  exact ⟨rfl, (below_new _ _).trans HB2.out⟩

set_option maxHeartbeats 1000000 in
set_option maxRecDepth 100000 in
theorem strb_tpl {bt b : Nat} {l : List UInt8} {w : World} (hc : Calls Tryz.prog 117 #[.pointer (some ⟨b, 0, none⟩), .pointer (some ⟨w.heap.size, 0, none⟩)] (sbNew w) (WrPost w.heap.size bt w.heap.size (sbNew w) l)) :
    Calls Tryz.prog 115 #[.pointer (some ⟨b, 0, none⟩)] w (StrDone w l) := by
  have HC := Lib.hid hc
  clear hc
  go_enter Tryz.func115, Tryz.ntmps115
  go_wp2_with fail
  refine Calls.mono HC.out ?_
  intro e w1 hp
  have hq := hp.later
  clear hp
  obtain ⟨rfl, hs, hz, hb⟩ := hq
  have hd := sb_done _ _ _ _ hs hz
  have HD := Lib.hid hd
  have HB := Lib.hid hb
  clear hs hz hb hd
  go_wp2_with fail
  refine Calls.mono HD.out ?_
  rintro e w2 ⟨rfl, hb2⟩
  have HB2 := Lib.hid (HB.out.trans hb2)
  clear hb2
  go_wp2
  go_ret
  exact ⟨rfl, (below_new _ _).trans HB2.out⟩

set_option maxHeartbeats 1000000 in
set_option maxRecDepth 100000 in
theorem strb_command {bt b : Nat} {l : List UInt8} {w : World} (hc : Calls Tryz.prog 109 #[.pointer (some ⟨b, 0, none⟩), .pointer (some ⟨w.heap.size, 0, none⟩)] (sbNew w) (WrPost w.heap.size bt w.heap.size (sbNew w) l)) :
    Calls Tryz.prog 132 #[.pointer (some ⟨b, 0, none⟩)] w (StrDone w l) := by
  have HC := Lib.hid hc
  clear hc
  go_enter Tryz.func132, Tryz.ntmps132
  go_wp2_with fail
  refine Calls.mono HC.out ?_
  intro e w1 hp
  have hq := hp.later
  clear hp
  obtain ⟨rfl, hs, hz, hb⟩ := hq
  have hd := sb_done _ _ _ _ hs hz
  have HD := Lib.hid hd
  have HB := Lib.hid hb
  clear hs hz hb hd
  go_wp2_with fail
  refine Calls.mono HD.out ?_
  rintro e w2 ⟨rfl, hb2⟩
  have HB2 := Lib.hid (HB.out.trans hb2)
  clear hb2
  go_wp2
  go_ret
  exact ⟨rfl, (below_new _ _).trans HB2.out⟩

set_option maxHeartbeats 1000000 in
set_option maxRecDepth 100000 in
theorem strb_list {bt b : Nat} {l : List UInt8} {w : World} (hc : Calls Tryz.prog 137 #[.pointer (some ⟨b, 0, none⟩), .pointer (some ⟨w.heap.size, 0, none⟩)] (sbNew w) (WrPost w.heap.size bt w.heap.size (sbNew w) l)) :
    Calls Tryz.prog 135 #[.pointer (some ⟨b, 0, none⟩)] w (StrDone w l) := by
  have HC := Lib.hid hc
  clear hc
  go_enter Tryz.func135, Tryz.ntmps135
  go_wp2_with fail
  refine Calls.mono HC.out ?_
  intro e w1 hp
  have hq := hp.later
  clear hp
  obtain ⟨rfl, hs, hz, hb⟩ := hq
  have hd := sb_done _ _ _ _ hs hz
  have HD := Lib.hid hd
  have HB := Lib.hid hb
  clear hs hz hb hd
  go_wp2_with fail
  refine Calls.mono HD.out ?_
  rintro e w2 ⟨rfl, hb2⟩
  have HB2 := Lib.hid (HB.out.trans hb2)
  clear hb2
  go_wp2
  go_ret
  exact ⟨rfl, (below_new _ _).trans HB2.out⟩

set_option maxHeartbeats 1000000 in
set_option maxRecDepth 100000 in
theorem strb_chain {bt b : Nat} {l : List UInt8} {w : World} (hc : Calls Tryz.prog 142 #[.pointer (some ⟨b, 0, none⟩), .pointer (some ⟨w.heap.size, 0, none⟩)] (sbNew w) (WrPost w.heap.size bt w.heap.size (sbNew w) l)) :
    Calls Tryz.prog 140 #[.pointer (some ⟨b, 0, none⟩)] w (StrDone w l) := by
  have HC := Lib.hid hc
  clear hc
  go_enter Tryz.func140, Tryz.ntmps140
  go_wp2_with fail
  refine Calls.mono HC.out ?_
  intro e w1 hp
  have hq := hp.later
  clear hp
  obtain ⟨rfl, hs, hz, hb⟩ := hq
  have hd := sb_done _ _ _ _ hs hz
  have HD := Lib.hid hd
  have HB := Lib.hid hb
  clear hs hz hb hd
  go_wp2_with fail
  refine Calls.mono HD.out ?_
  rintro e w2 ⟨rfl, hb2⟩
  have HB2 := Lib.hid (HB.out.trans hb2)
  clear hb2
  go_wp2
  go_ret
  exact ⟨rfl, (below_new _ _).trans HB2.out⟩

set_option maxHeartbeats 1000000 in
set_option maxRecDepth 100000 in
theorem strb_branch {bt b : Nat} {l : List UInt8} {w : World} (hc : Calls Tryz.prog 146 #[.pointer (some ⟨b, 0, none⟩), .pointer (some ⟨w.heap.size, 0, none⟩)] (sbNew w) (WrPost w.heap.size bt w.heap.size (sbNew w) l)) :
    Calls Tryz.prog 144 #[.pointer (some ⟨b, 0, none⟩)] w (StrDone w l) := by
  have HC := Lib.hid hc
  clear hc
  go_enter Tryz.func144, Tryz.ntmps144
  go_wp2_with fail
  refine Calls.mono HC.out ?_
  intro e w1 hp
  have hq := hp.later
  clear hp
  obtain ⟨rfl, hs, hz, hb⟩ := hq
  have hd := sb_done _ _ _ _ hs hz
  have HD := Lib.hid hd
  have HB := Lib.hid hb
  clear hs hz hb hd
  go_wp2_with fail
  refine Calls.mono HD.out ?_
  rintro e w2 ⟨rfl, hb2⟩
  have HB2 := Lib.hid (HB.out.trans hb2)
  clear hb2
  go_wp2
  go_ret
  exact ⟨rfl, (below_new _ _).trans HB2.out⟩

theorem env_new {w : World} {bt : Nat} (hbt : bt < w.heap.size) (ht : w.cell? ⟨bt, 25, none⟩ = some (.string ⟨#[123, 123]⟩)) (ht' : w.cell? ⟨bt, 26, none⟩ = some (.string ⟨#[125, 125]⟩)) : Env w.heap.size bt w.heap.size [] (sbNew w) :=
  ⟨sb_fresh w, (below_new w _).size, hbt, ((below_new w _).cell (p := ⟨bt, 25, none⟩) hbt).trans ht, ((below_new w _).cell (p := ⟨bt, 26, none⟩) hbt).trans ht'⟩

theorem str_any (bt d b : Nat) (n : Nd) (w : World) (h : PN w 0 (· < w.heap.size) (TrIs (some ⟨bt, 0, none⟩)) d b n) (hn : Nmd d n) (hs : Sm d n) (hbt : bt < w.heap.size) (ht : w.cell? ⟨bt, 25, none⟩ = some (.string ⟨#[123, 123]⟩)) (ht' : w.cell? ⟨bt, 26, none⟩ = some (.string ⟨#[125, 125]⟩)) (hl : (pr d n).length ≤ 140737488355328) :
    Calls Tryz.prog (strF n.kind) #[.pointer (some ⟨b, 0, none⟩)] w (StrDone w (pr d n)) := by
  have hc := wr_any w.heap.size bt w.heap.size d b n [] (sbNew w) (h.low (below_new _ _)) hn hs (env_new hbt ht ht') (by simpa using hl)
  rw [List.nil_append] at hc
  cases d with
  | zero => exact h.elim
  | succ d =>
    obtain ⟨h1, h2, trv, E, cs, rfl, hh, hbody⟩ := h
    cases hbody with
    | text k hb =>
      rw [k]
      refine Calls.mono (str_text hb hh) fun e w' hp => hp.done ?_
      have e0 : pr (d + 1) n = by' n.text := by simp [pr, k]
      rw [e0]
      rfl
    | bool k =>
      rw [k]
      refine Calls.mono (str_bool hh) fun e w' hp => hp.done ?_
      have e0 : pr (d + 1) n = (if n.tru then [116, 114, 117, 101] else [102, 97, 108, 115, 101]) := by simp [pr, k]
      rw [e0]
      cases n.tru <;> rfl
    | dot k =>
      rw [k]
      refine Calls.mono (str_dot (n := n) hh) fun e w' hp => hp.done ?_
      have e0 : pr (d + 1) n = [46] := by simp [pr, k]
      rw [e0]
      try rfl
    | ident k =>
      rw [k]
      refine Calls.mono (str_ident hh) fun e w' hp => hp.done ?_
      have e0 : pr (d + 1) n = by' n.text := by simp [pr, k]
      rw [e0]
      rfl
    | nil k =>
      rw [k]
      refine Calls.mono (str_nil (n := n) hh) fun e w' hp => hp.done ?_
      have e0 : pr (d + 1) n = [110, 105, 108] := by simp [pr, k]
      rw [e0]
      try rfl
    | num k b1 b2 b3 b4 x y f re im =>
      rw [k]
      refine Calls.mono (str_num b1 b2 b3 b4 x y f re im hh) fun e w' hp => hp.done ?_
      have e0 : pr (d + 1) n = by' n.text := by simp [pr, k]
      rw [e0]
      rfl
    | str k =>
      rw [k]
      refine Calls.mono (str_str hh) fun e w' hp => hp.done ?_
      have e0 : pr (d + 1) n = by' n.text := by simp [pr, k]
      rw [e0]
      rfl
    | brk k =>
      rw [k]
      refine Calls.mono (str_brk (n := n) ht ht' hh) fun e w' hp => hp.done ?_
      have e0 : pr (d + 1) n = lbr ++ [98, 114, 101, 97, 107] ++ rbr := by simp [pr, k]
      rw [e0]
      try rfl
    | cont k =>
      rw [k]
      refine Calls.mono (str_cont (n := n) ht ht' hh) fun e w' hp => hp.done ?_
      have e0 : pr (d + 1) n = lbr ++ [99, 111, 110, 116, 105, 110, 117, 101] ++ rbr := by simp [pr, k]
      rw [e0]
      try rfl
    | comment k => rw [k] at hc ⊢; exact strb_comment hc
    | field k hx => rw [k] at hc ⊢; exact strb_field hc
    | var k hx => rw [k] at hc ⊢; exact strb_var hc
    | action k hk hp hq => rw [k] at hc ⊢; exact strb_action hc
    | tpl0 k hk => rw [k] at hc ⊢; exact strb_tpl hc
    | tpl1 k hk hp hq => rw [k] at hc ⊢; exact strb_tpl hc
    | pipe k hd hk rd rk => rw [k] at hc ⊢; exact strb_pipe hc
    | command k rk => rw [k] at hc ⊢; exact strb_command hc
    | list k rk => rw [k] at hc ⊢; exact strb_list hc
    | chain k hk hq hx => rw [k] at hc ⊢; exact strb_chain hc
    | branch0 k hk hel hp hl sp sl => rcases k with ⟨k, rfl, rfl⟩ | ⟨k, rfl, rfl⟩ | ⟨k, rfl, rfl⟩ <;> (rw [k] at hc ⊢; exact strb_branch hc)
    | branch1 k hk hel hels hp hl hle sp sl se => rcases k with ⟨k, rfl, rfl⟩ | ⟨k, rfl, rfl⟩ | ⟨k, rfl, rfl⟩ <;> (rw [k] at hc ⊢; exact strb_branch hc)

end Go.Proofs.YtiogfkpclkkoaaaGreat
