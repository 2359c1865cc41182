/-
  spec.argument and spec.prints, over a contract of spec.Print at the depth below.
  spec.Print at nodes that the walk meets in plain order. Printed by py/spc.py.
-/
import Derived.Test.YtiogfkpclkkoaaaGreatSpL
import Derived.Test.YtiogfkpclkkoaaaGreatWideS
import Derived.Test.YtiogfkpclkkoaaaGreatFactsR
set_option linter.unusedVariables false
set_option linter.unusedSimpArgs false
namespace Go.Proofs.YtiogfkpclkkoaaaGreat
open Go.RowKit

def SpPost (w : World) (l : List UInt8) (e : Ending) (w' : World) : Prop := ∃ s : ByteArray, e = .returned (.string s) ∧ s.data.toList = l ∧ Below w.heap.size w w'
def PrintAt (B d : Nat) : Prop := ∀ cs n w, SN w (· < B) d cs n → Sm d n → Shp d n → B ≤ w.heap.size → Calls Tryz.prog 9 #[.agg cs.toArray] w (SpPost w (pr d n))

theorem pr_small {d : Nat} {n : Nd} (hs : Sm d n) (hp : Shp d n) : (pr d n).length + 8 ≤ 41943040 := by
  have := pr_len d n hp
  simp only [Sm] at hs
  omega
theorem small_of {s : ByteArray} {l : List UInt8} {d : Nat} {n : Nd} (h : s.data.toList = l) (e : l = pr d n) (hs : Sm d n) (hp : Shp d n) : s.size ≤ 41943040 := by
  rw [size_data h, e]
  have := pr_small hs hp
  omega

attribute [local go_sem ↓] stS ldS
attribute [local go_sem] run_stS run_ldS_new

set_option maxHeartbeats 1000000 in
set_option maxRecDepth 100000 in
theorem argument_any (B d : Nat) (ih : PrintAt B d) (cs : List Value) (n : Nd) (w : World) (h : SN w (· < B) d cs n) (hs : Sm d n) (hp : Shp d n) (hB : B ≤ w.heap.size) :
    Calls Tryz.prog 20 #[.agg cs.toArray] w (SpPost w (argD (pr d) n)) := by
  obtain ⟨A1, c1, A2, c2, A3, c3, A4, c4, rfl⟩ := h.form
  have IH := Lib.hid ih
  have HS := Lib.hid hs
  have HP := Lib.hid hp
  show Calls _ _ #[.agg #[_, _, _, _, _, _, _, _, _, _, _, _]] _ _
  generalize n.names.length = l1 at *
  generalize n.decl.length = l2 at *
  generalize n.kids.length = l3 at *
  generalize n.els.length = l4 at *
  by_cases hk : n.kind = 13
  · have ea : argD (pr d) n = 40 :: (pr d n ++ [41]) := by simp [argD, hk]
    rw [ea]
    rw [hk] at h ⊢
    have H := Lib.hid h
    clear h ih hs hp hk ea
    go_enter Tryz.func20, Tryz.ntmps20
    go_wp2_with fail
    refine Calls.mono (IH.out [_, _, _, _, _, _, _, _, _, _, _, _] n _ (SN.mono (fun _ h _ => h) (Keeps.of_below (below_new _ _)) _ _ _ H.out) HS.out HP.out (by simp only [World.size_alloc]; omega)) ?_
    rintro e w1 ⟨s, rfl, hx, hb⟩
    have hz := small_of hx rfl HS.out HP.out
    have HX := Lib.hid hx
    have HB := Lib.hid hb
    clear hx hb
    go_wp2
    go_ret
    exact ⟨_, rfl, by rw [append_data, append_data, HX.out]; rfl, below_alloc HB.out⟩
  · have ea : argD (pr d) n = pr d n := by simp [argD, hk]
    rw [ea]
    generalize hkk : n.kind = k at *
    have hk' : (k == 13) = false := by simpa using hk
    have H := Lib.hid h
    clear h ih hs hp ea hkk
    go_enter Tryz.func20, Tryz.ntmps20
    go_wp2_with fail
    refine Calls.mono (IH.out [_, _, _, _, _, _, _, _, _, _, _, _] n _ (SN.mono (fun _ h _ => h) (Keeps.of_below (below_new _ _)) _ _ _ H.out) HS.out HP.out (by simp only [World.size_alloc]; omega)) ?_
    rintro e w1 ⟨s, rfl, hx, hb⟩
    have HX := Lib.hid hx
    have HB := Lib.hid hb
    clear hx hb
    go_wp2
    go_ret
    exact ⟨_, rfl, HX.out, below_alloc HB.out⟩

/-! ### Lists of strings -/

/-- A slice of the call's own that holds the strings l. -/
def OwnS (B : Nat) (v : Value) (l : List ByteArray) (w : World) : Prop := w.ownsRow B 9 1 v l.length (l.map Value.string)
theorem OwnS.form {B : Nat} {v : Value} {l : List ByteArray} {w : World} (h : OwnS B v l w) : ∃ A c, v = .slice A l.length c := by
  rcases h.2 with ⟨rfl, h0⟩ | ⟨g, cap, cur, rfl, _⟩
  · exact ⟨none, 0, by rw [h0]⟩
  · exact ⟨_, _, rfl⟩
theorem OwnS.below {B : Nat} {v : Value} {l : List ByteArray} {w w' : World} (h : OwnS B v l w) (hb : Below w.heap.size w w') : OwnS B v l w' := by
  obtain ⟨hl, hown⟩ := h
  refine ⟨hl, ?_⟩
  rcases hown with h | ⟨g, cap, cur, h1, h2, h3, h4⟩
  · exact Or.inl h
  · exact Or.inr ⟨g, cap, cur, h1, h2, (hb.block g (lt_of_block h3)).trans h3, h4⟩
theorem OwnS.append {B : Nat} {v v' : Value} {l : List ByteArray} {s : ByteArray} {w w' : World} (hown : OwnS B v l w) (hB : B ≤ w.heap.size)
    (h : w'.ownsRow B 9 1 v' (l.length + 1) (l.map Value.string ++ [.string s])) (hg : (w.alloc (.cells #[.string s] 9)).grownBy w' v.ownBlock) : OwnS B v' (l ++ [s]) w' ∧ Below B w w' := by
  refine ⟨?_, ?_⟩
  · unfold OwnS
    rw [List.map_append, List.length_append]
    exact h
  · exact ((Below.refl B w).alloc hB _).grown hg (by simp; omega) (fun k hk => (World.ownsRow.lt hown k hk).1)
theorem OwnS.strs {B : Nat} {A : Option Addr} {n c : Nat} {l : List ByteArray} {w : World} (h : OwnS B (.slice A n c) l w) : n = l.length ∧ Strs w (fun _ => True) (.slice A l.length c) l := by
  obtain ⟨A', c', e⟩ := h.form
  injection e with e1 e2 e3
  subst e1; subst e2; subst e3
  refine ⟨rfl, A, c, rfl, fun h0 => ?_⟩
  obtain ⟨_, ⟨_, h1⟩ | ⟨g, cap, cur, hv, _, hcur, _, _, _, htk⟩⟩ := h
  · omega
  injection hv with e1 e2 e3
  subst e1
  refine ⟨g, 0, rfl, trivial, lt_of_block hcur, fun i hi => ⟨_, rfl, fun j hj => ?_⟩⟩
  have hj0 : j = 0 := by simpa using hj
  subst hj0
  have : (cur.toList.take (l.length * 1))[i]? = (l.map Value.string)[i]? := by rw [htk]
  rw [List.getElem?_take_of_lt (by omega)] at this
  rw [cell_of_heap' hcur, ← Array.getElem?_toList]
  simp only [Nat.zero_add, Nat.mul_one, Nat.add_zero]
  rw [this, List.getElem?_map, List.getElem?_eq_getElem hi]
  rfl

def PrintsPost (w : World) (ls : List (List UInt8)) (e : Ending) (w' : World) : Prop :=
  ∃ (A : Option Addr) (c : Nat) (L : List ByteArray), e = .returned (.slice A L.length c) ∧ L.map by' = ls ∧ Strs w' (fun _ => True) (.slice A L.length c) L ∧ Below w.heap.size w w'

theorem infoStrSp : (Tryz.prog.info? 9).map (fun i => (i.zero, i.size, i.bytes)) = some (some (.string ⟨#[]⟩), 1, 16) := by kernel_rfl

set_option maxHeartbeats 2000000 in
set_option maxRecDepth 100000 in
theorem prints_any (B d : Nat) (ih : PrintAt B d) (l : List Nd) (A : Option Addr) (c : Nat) (w : World) (h : Row w (· < B) 12 (SN w (· < B) d) (.slice A l.length c) l) (hs : Sms d l) (hp : ∀ a ∈ l, Shp d a) (hB : B ≤ w.heap.size) :
    Calls Tryz.prog 21 #[.slice A l.length c] w (PrintsPost w (l.map (pr d))) := by
  obtain ⟨i0, hi, hz0, hz1, hz2⟩ := info_parts infoStrSp
  have IH := Lib.hid ih
  have H3 := Lib.hid h
  have y := hs.1
  have S3 := Lib.hid hs
  have P3 := Lib.hid hp
  clear ih h hs hp
  generalize hm : l.length = m at *
  have M := Lib.hid hm
  clear hm
  go_enter Tryz.func21, Tryz.ntmps21
  go_wp2_with fail
  go_loopw [3, 8] (fun a i wr => ∃ (k : Nat) (A' : Option Addr) (n' c' : Nat) (L : List ByteArray), k ≤ m ∧ a = .slice A' n' c' ∧ i = .int .i64 k ∧ Hid (OwnS w.heap.size (.slice A' n' c') L wr) ∧ Hid (L.map by' = (l.take k).map (pr d)) ∧ Hid (Below w.heap.size w wr)) (fun _ i _ => m - (intOf i).toNat)
  case atStart => exact ⟨0, _, _, _, [], Nat.zero_le _, rfl, rfl, Lib.hid (World.ownsRow_nil _ _ _ _), Lib.hid rfl, Lib.hid (Below.refl _ _)⟩
  case round =>
    obtain ⟨k, A1, n1, c1, L, hk, rfl, rfl, ho, hL, hbl⟩ := hrel
    have BL := hbl.out.size
    by_cases hlt : k < m
    · have hlt' : k < l.length := by rw [M.out]; exact hlt
      have hr : Row wr (· < B) 12 (SN wr (· < B) d) (.slice A m c) l := H3.out.mono (fun cs a _ => SN.mono (fun _ h _ => h) (Keeps.of_below hbl.out) d cs a) (fun _ h _ => h) (Keeps.of_below hbl.out)
      rw [← M.out] at hr
      obtain ⟨p, b', o', B1, e1, B2, e2, B3, e3, B4, e4, hpk, rfl, _, _, hsn, _, hld⟩ := SN.ld hr hlt'
      have hsm : Sm d l[k] := S3.out.2 _ (List.getElem_mem _)
      have hsp : Shp d l[k] := P3.out _ (List.getElem_mem _)
      rw [hpk] at hsm hsp
      have P := Lib.hid hpk
      have SNj := Lib.hid hsn
      have SMj := Lib.hid hsm
      have SPj := Lib.hid hsp
      have hLl : L.length = k := by
        have := congrArg List.length hL.out
        simp only [List.length_map, List.length_take] at this
        omega
      have HLL := Lib.hid hLl
      clear hr hsn hsm hpk hsp hLl
      generalize p.names.length = l1 at *
      generalize p.decl.length = l2 at *
      generalize p.kids.length = l3 at *
      generalize p.els.length = l4 at *
      go_wp2_with fail
      refine Calls.mono (IH.out [_, _, _, _, _, _, _, _, _, _, _, _] p _ (SN.mono (fun _ h _ => h) (Keeps.of_below (below_new _ _)) _ _ _ SNj.out) SMj.out SPj.out (by simp only [World.size_alloc]; omega)) ?_
      rintro e w1 ⟨s, rfl, hx, hb⟩
      have HX := Lib.hid hx
      have hb' := below_alloc hb
      have ho1 := ho.out.below hb'
      have hs1 := hb'.size
      have HO1 := Lib.hid ho1
      have hown : w1.ownsRow w.heap.size 9 1 (.slice A1 n1 c1) L.length (L.map Value.string) := ho1
      have HB1 := Lib.hid (hbl.out.trans (hb'.mono BL))
      clear hx hb hb' ho1
      go_wp2_with (at_builtin; refine wpList_append_own _ rfl _ _ 22 rfl w.heap.size 9 i0 (.string ⟨#[]⟩) 1 16 Tryz.underlying22 hi hz0 hz1 hz2 rfl (by decide) _ _ _ rfl (hown.alloc _) ⟨w1.heap.size, 0, none⟩ 1 1 [.string s] rfl rfl ?c1 ?c2 ?c3 ?c4 ?c5 ?_)
      case c1 =>
        intro j u hj
        match j, hj with
        | 0, hj => simp at hj; subst hj; simp [Addr.add]
      case c2 => intro u hu; simp at hu; subst hu; rfl
      case c3 => have := HLL.out; unfold maxLen; omega
      case c4 => have := HLL.out; omega
      case c5 => simp; omega
      intro v' w2 hown' hgrow _
      have hq := HO1.out.append (s := s) (by omega) hown' hgrow
      have HQ := Lib.hid hq
      obtain ⟨A', c', rfl⟩ := hq.1.form
      clear hq hown hgrow hown'
      go_wp2_with fail
      go_roundw
      case rel =>
        have r1 : (L ++ [s]).map by' = (l.take (k + 1)).map (pr d) := by
          rw [take_succ' hlt', List.map_append, List.map_append, hL.out, P.out]
          simp only [List.map_cons, List.map_nil]
          rw [show by' s = pr d p from HX.out]
        first
          | exact ⟨k + 1, _, _, _, _, by omega, rfl, by go_num, Lib.hid HQ.out.1, Lib.hid r1, Lib.hid (HB1.out.trans HQ.out.2)⟩
          | ((repeat apply Exists.intro); exact ⟨⟨k + 1, _, _, _, _, by omega, rfl, by go_num, Lib.hid HQ.out.1, Lib.hid r1, Lib.hid (HB1.out.trans HQ.out.2)⟩, rfl⟩)
      case measure => simp [intOf]; omega
    · have hk' : k = m := by omega
      subst hk'
      obtain ⟨rfl, hst⟩ := ho.out.strs
      have ST := Lib.hid hst
      clear hst
      generalize hq : L.length = q at *
      have HQ := Lib.hid hq
      clear hq
      go_wp2
      go_ret
      refine ⟨A1, c1, L, by rw [HQ.out]; rfl, ?_, by have h := ST.out; rw [← HQ.out] at h; exact h, hbl.out⟩
      have h := hL.out
      rwa [List.take_of_length_le (by rw [M.out]; exact Nat.le_refl _)] at h

end Go.Proofs.YtiogfkpclkkoaaaGreat

set_option linter.unusedVariables false
set_option linter.unusedSimpArgs false
namespace Go.Proofs.YtiogfkpclkkoaaaGreat
open Go.RowKit

theorem nil_joinL : ∀ l : List (List UInt8), joinL [] l = l.flatMap id
  | [] => rfl
  | a :: r => by simp [joinL]
theorem list_joinL (f : Nd → List UInt8) (l : List Nd) : joinL [] (l.map f) = l.flatMap f := by
  rw [nil_joinL, List.flatMap_map]
  rfl
theorem dots_dotted {l : List ByteArray} (h : 0 < l.length) : dots l = 46 :: dotted l := by
  match l, h with
  | a :: r, _ => simp [dots, dotted, joinL, List.flatMap_map]

attribute [local go_sem ↓] stS ldS
attribute [local go_sem] run_stS run_ldS_new

set_option maxHeartbeats 2000000 in
set_option maxRecDepth 100000 in
theorem sp_text (B d : Nat) (t v : ByteArray) (names : List ByteArray) (tru asg : Bool) (decl kids els : List Nd) (b3 : Bool) (num : Int) (ex : Bool) (w : World) (A1 A2 A3 A4 : Option Addr) (c1 c2 c3 c4 : Nat) (hs : Sm (d + 1) (.mk 1 t v names tru asg decl kids els b3 num ex)) (hp : Shp (d + 1) (.mk 1 t v names tru asg decl kids els b3 num ex)) (hB : B ≤ w.heap.size) :
    Calls Tryz.prog 9 #[.agg #[.int .i64 1, .string t, .string v, .slice A1 names.length c1, .bool tru, .bool asg, .slice A2 decl.length c2, .slice A3 kids.length c3, .slice A4 els.length c4, .bool b3, .int .i64 num, .bool ex]] w (SpPost w (pr (d + 1) (.mk 1 t v names tru asg decl kids els b3 num ex))) := by
  have hlen := pr_small hs hp
  have e0 : pr (d + 1) (.mk 1 t v names tru asg decl kids els b3 num ex) = by' t := by simp [pr, Nd.kind, Nd.text, Nd.names, Nd.kids, Nd.decl, Nd.els, Nd.hasElse, Nd.assign, Nd.tru, firstD, secondD]
  rw [e0] at hlen ⊢
  clear hs hp e0 hlen
  generalize names.length = l1
  generalize decl.length = l2
  generalize kids.length = l3
  generalize els.length = l4
  go_enter Tryz.func9, Tryz.ntmps9
  go_wp2
  go_ret
  exact ⟨t, rfl, rfl, below_new _ _⟩

set_option maxHeartbeats 2000000 in
set_option maxRecDepth 100000 in
theorem sp_ident (B d : Nat) (t v : ByteArray) (names : List ByteArray) (tru asg : Bool) (decl kids els : List Nd) (b3 : Bool) (num : Int) (ex : Bool) (w : World) (A1 A2 A3 A4 : Option Addr) (c1 c2 c3 c4 : Nat) (hs : Sm (d + 1) (.mk 8 t v names tru asg decl kids els b3 num ex)) (hp : Shp (d + 1) (.mk 8 t v names tru asg decl kids els b3 num ex)) (hB : B ≤ w.heap.size) :
    Calls Tryz.prog 9 #[.agg #[.int .i64 8, .string t, .string v, .slice A1 names.length c1, .bool tru, .bool asg, .slice A2 decl.length c2, .slice A3 kids.length c3, .slice A4 els.length c4, .bool b3, .int .i64 num, .bool ex]] w (SpPost w (pr (d + 1) (.mk 8 t v names tru asg decl kids els b3 num ex))) := by
  have hlen := pr_small hs hp
  have e0 : pr (d + 1) (.mk 8 t v names tru asg decl kids els b3 num ex) = by' t := by simp [pr, Nd.kind, Nd.text, Nd.names, Nd.kids, Nd.decl, Nd.els, Nd.hasElse, Nd.assign, Nd.tru, firstD, secondD]
  rw [e0] at hlen ⊢
  clear hs hp e0 hlen
  generalize names.length = l1
  generalize decl.length = l2
  generalize kids.length = l3
  generalize els.length = l4
  go_enter Tryz.func9, Tryz.ntmps9
  go_wp2
  go_ret
  exact ⟨t, rfl, rfl, below_new _ _⟩

set_option maxHeartbeats 2000000 in
set_option maxRecDepth 100000 in
theorem sp_num (B d : Nat) (t v : ByteArray) (names : List ByteArray) (tru asg : Bool) (decl kids els : List Nd) (b3 : Bool) (num : Int) (ex : Bool) (w : World) (A1 A2 A3 A4 : Option Addr) (c1 c2 c3 c4 : Nat) (hs : Sm (d + 1) (.mk 12 t v names tru asg decl kids els b3 num ex)) (hp : Shp (d + 1) (.mk 12 t v names tru asg decl kids els b3 num ex)) (hB : B ≤ w.heap.size) :
    Calls Tryz.prog 9 #[.agg #[.int .i64 12, .string t, .string v, .slice A1 names.length c1, .bool tru, .bool asg, .slice A2 decl.length c2, .slice A3 kids.length c3, .slice A4 els.length c4, .bool b3, .int .i64 num, .bool ex]] w (SpPost w (pr (d + 1) (.mk 12 t v names tru asg decl kids els b3 num ex))) := by
  have hlen := pr_small hs hp
  have e0 : pr (d + 1) (.mk 12 t v names tru asg decl kids els b3 num ex) = by' t := by simp [pr, Nd.kind, Nd.text, Nd.names, Nd.kids, Nd.decl, Nd.els, Nd.hasElse, Nd.assign, Nd.tru, firstD, secondD]
  rw [e0] at hlen ⊢
  clear hs hp e0 hlen
  generalize names.length = l1
  generalize decl.length = l2
  generalize kids.length = l3
  generalize els.length = l4
  go_enter Tryz.func9, Tryz.ntmps9
  go_wp2
  go_ret
  exact ⟨t, rfl, rfl, below_new _ _⟩

set_option maxHeartbeats 2000000 in
set_option maxRecDepth 100000 in
theorem sp_str (B d : Nat) (t v : ByteArray) (names : List ByteArray) (tru asg : Bool) (decl kids els : List Nd) (b3 : Bool) (num : Int) (ex : Bool) (w : World) (A1 A2 A3 A4 : Option Addr) (c1 c2 c3 c4 : Nat) (hs : Sm (d + 1) (.mk 15 t v names tru asg decl kids els b3 num ex)) (hp : Shp (d + 1) (.mk 15 t v names tru asg decl kids els b3 num ex)) (hB : B ≤ w.heap.size) :
    Calls Tryz.prog 9 #[.agg #[.int .i64 15, .string t, .string v, .slice A1 names.length c1, .bool tru, .bool asg, .slice A2 decl.length c2, .slice A3 kids.length c3, .slice A4 els.length c4, .bool b3, .int .i64 num, .bool ex]] w (SpPost w (pr (d + 1) (.mk 15 t v names tru asg decl kids els b3 num ex))) := by
  have hlen := pr_small hs hp
  have e0 : pr (d + 1) (.mk 15 t v names tru asg decl kids els b3 num ex) = by' t := by simp [pr, Nd.kind, Nd.text, Nd.names, Nd.kids, Nd.decl, Nd.els, Nd.hasElse, Nd.assign, Nd.tru, firstD, secondD]
  rw [e0] at hlen ⊢
  clear hs hp e0 hlen
  generalize names.length = l1
  generalize decl.length = l2
  generalize kids.length = l3
  generalize els.length = l4
  go_enter Tryz.func9, Tryz.ntmps9
  go_wp2
  go_ret
  exact ⟨t, rfl, rfl, below_new _ _⟩

set_option maxHeartbeats 2000000 in
set_option maxRecDepth 100000 in
theorem sp_comment (B d : Nat) (t v : ByteArray) (names : List ByteArray) (tru asg : Bool) (decl kids els : List Nd) (b3 : Bool) (num : Int) (ex : Bool) (w : World) (A1 A2 A3 A4 : Option Addr) (c1 c2 c3 c4 : Nat) (hs : Sm (d + 1) (.mk 19 t v names tru asg decl kids els b3 num ex)) (hp : Shp (d + 1) (.mk 19 t v names tru asg decl kids els b3 num ex)) (hB : B ≤ w.heap.size) :
    Calls Tryz.prog 9 #[.agg #[.int .i64 19, .string t, .string v, .slice A1 names.length c1, .bool tru, .bool asg, .slice A2 decl.length c2, .slice A3 kids.length c3, .slice A4 els.length c4, .bool b3, .int .i64 num, .bool ex]] w (SpPost w (pr (d + 1) (.mk 19 t v names tru asg decl kids els b3 num ex))) := by
  have hlen := pr_small hs hp
  have e0 : pr (d + 1) (.mk 19 t v names tru asg decl kids els b3 num ex) = lbr ++ by' t ++ rbr := by simp [pr, Nd.kind, Nd.text, Nd.names, Nd.kids, Nd.decl, Nd.els, Nd.hasElse, Nd.assign, Nd.tru, firstD, secondD]
  rw [e0] at hlen ⊢
  simp only [List.length_append, List.length_cons, List.length_nil, by'_len, lbr, rbr] at hlen
  have hz : t.size ≤ 41943040 := by omega
  clear hs hp e0 hlen
  generalize names.length = l1
  generalize decl.length = l2
  generalize kids.length = l3
  generalize els.length = l4
  go_enter Tryz.func9, Tryz.ntmps9
  go_wp2
  go_ret
  exact ⟨_, rfl, by rw [append_data, append_data]; rfl, below_new _ _⟩

set_option maxHeartbeats 2000000 in
set_option maxRecDepth 100000 in
theorem sp_dot (B d : Nat) (t v : ByteArray) (names : List ByteArray) (tru asg : Bool) (decl kids els : List Nd) (b3 : Bool) (num : Int) (ex : Bool) (w : World) (A1 A2 A3 A4 : Option Addr) (c1 c2 c3 c4 : Nat) (hs : Sm (d + 1) (.mk 6 t v names tru asg decl kids els b3 num ex)) (hp : Shp (d + 1) (.mk 6 t v names tru asg decl kids els b3 num ex)) (hB : B ≤ w.heap.size) :
    Calls Tryz.prog 9 #[.agg #[.int .i64 6, .string t, .string v, .slice A1 names.length c1, .bool tru, .bool asg, .slice A2 decl.length c2, .slice A3 kids.length c3, .slice A4 els.length c4, .bool b3, .int .i64 num, .bool ex]] w (SpPost w (pr (d + 1) (.mk 6 t v names tru asg decl kids els b3 num ex))) := by
  have hlen := pr_small hs hp
  have e0 : pr (d + 1) (.mk 6 t v names tru asg decl kids els b3 num ex) = [46] := by simp [pr, Nd.kind, Nd.text, Nd.names, Nd.kids, Nd.decl, Nd.els, Nd.hasElse, Nd.assign, Nd.tru, firstD, secondD]
  rw [e0] at hlen ⊢
  clear hs hp e0 hlen
  generalize names.length = l1
  generalize decl.length = l2
  generalize kids.length = l3
  generalize els.length = l4
  go_enter Tryz.func9, Tryz.ntmps9
  go_wp2
  go_ret
  exact ⟨_, rfl, rfl, below_new _ _⟩

set_option maxHeartbeats 2000000 in
set_option maxRecDepth 100000 in
theorem sp_nil (B d : Nat) (t v : ByteArray) (names : List ByteArray) (tru asg : Bool) (decl kids els : List Nd) (b3 : Bool) (num : Int) (ex : Bool) (w : World) (A1 A2 A3 A4 : Option Addr) (c1 c2 c3 c4 : Nat) (hs : Sm (d + 1) (.mk 11 t v names tru asg decl kids els b3 num ex)) (hp : Shp (d + 1) (.mk 11 t v names tru asg decl kids els b3 num ex)) (hB : B ≤ w.heap.size) :
    Calls Tryz.prog 9 #[.agg #[.int .i64 11, .string t, .string v, .slice A1 names.length c1, .bool tru, .bool asg, .slice A2 decl.length c2, .slice A3 kids.length c3, .slice A4 els.length c4, .bool b3, .int .i64 num, .bool ex]] w (SpPost w (pr (d + 1) (.mk 11 t v names tru asg decl kids els b3 num ex))) := by
  have hlen := pr_small hs hp
  have e0 : pr (d + 1) (.mk 11 t v names tru asg decl kids els b3 num ex) = [110, 105, 108] := by simp [pr, Nd.kind, Nd.text, Nd.names, Nd.kids, Nd.decl, Nd.els, Nd.hasElse, Nd.assign, Nd.tru, firstD, secondD]
  rw [e0] at hlen ⊢
  clear hs hp e0 hlen
  generalize names.length = l1
  generalize decl.length = l2
  generalize kids.length = l3
  generalize els.length = l4
  go_enter Tryz.func9, Tryz.ntmps9
  go_wp2
  go_ret
  exact ⟨_, rfl, rfl, below_new _ _⟩

set_option maxHeartbeats 2000000 in
set_option maxRecDepth 100000 in
theorem sp_brk (B d : Nat) (t v : ByteArray) (names : List ByteArray) (tru asg : Bool) (decl kids els : List Nd) (b3 : Bool) (num : Int) (ex : Bool) (w : World) (A1 A2 A3 A4 : Option Addr) (c1 c2 c3 c4 : Nat) (hs : Sm (d + 1) (.mk 20 t v names tru asg decl kids els b3 num ex)) (hp : Shp (d + 1) (.mk 20 t v names tru asg decl kids els b3 num ex)) (hB : B ≤ w.heap.size) :
    Calls Tryz.prog 9 #[.agg #[.int .i64 20, .string t, .string v, .slice A1 names.length c1, .bool tru, .bool asg, .slice A2 decl.length c2, .slice A3 kids.length c3, .slice A4 els.length c4, .bool b3, .int .i64 num, .bool ex]] w (SpPost w (pr (d + 1) (.mk 20 t v names tru asg decl kids els b3 num ex))) := by
  have hlen := pr_small hs hp
  have e0 : pr (d + 1) (.mk 20 t v names tru asg decl kids els b3 num ex) = lbr ++ [98, 114, 101, 97, 107] ++ rbr := by simp [pr, Nd.kind, Nd.text, Nd.names, Nd.kids, Nd.decl, Nd.els, Nd.hasElse, Nd.assign, Nd.tru, firstD, secondD]
  rw [e0] at hlen ⊢
  clear hs hp e0 hlen
  generalize names.length = l1
  generalize decl.length = l2
  generalize kids.length = l3
  generalize els.length = l4
  go_enter Tryz.func9, Tryz.ntmps9
  go_wp2
  go_ret
  exact ⟨_, rfl, rfl, below_new _ _⟩

set_option maxHeartbeats 2000000 in
set_option maxRecDepth 100000 in
theorem sp_cont (B d : Nat) (t v : ByteArray) (names : List ByteArray) (tru asg : Bool) (decl kids els : List Nd) (b3 : Bool) (num : Int) (ex : Bool) (w : World) (A1 A2 A3 A4 : Option Addr) (c1 c2 c3 c4 : Nat) (hs : Sm (d + 1) (.mk 21 t v names tru asg decl kids els b3 num ex)) (hp : Shp (d + 1) (.mk 21 t v names tru asg decl kids els b3 num ex)) (hB : B ≤ w.heap.size) :
    Calls Tryz.prog 9 #[.agg #[.int .i64 21, .string t, .string v, .slice A1 names.length c1, .bool tru, .bool asg, .slice A2 decl.length c2, .slice A3 kids.length c3, .slice A4 els.length c4, .bool b3, .int .i64 num, .bool ex]] w (SpPost w (pr (d + 1) (.mk 21 t v names tru asg decl kids els b3 num ex))) := by
  have hlen := pr_small hs hp
  have e0 : pr (d + 1) (.mk 21 t v names tru asg decl kids els b3 num ex) = lbr ++ [99, 111, 110, 116, 105, 110, 117, 101] ++ rbr := by simp [pr, Nd.kind, Nd.text, Nd.names, Nd.kids, Nd.decl, Nd.els, Nd.hasElse, Nd.assign, Nd.tru, firstD, secondD]
  rw [e0] at hlen ⊢
  clear hs hp e0 hlen
  generalize names.length = l1
  generalize decl.length = l2
  generalize kids.length = l3
  generalize els.length = l4
  go_enter Tryz.func9, Tryz.ntmps9
  go_wp2
  go_ret
  exact ⟨_, rfl, rfl, below_new _ _⟩

set_option maxHeartbeats 2000000 in
set_option maxRecDepth 100000 in
theorem sp_bool (B d : Nat) (t v : ByteArray) (names : List ByteArray) (tru asg : Bool) (decl kids els : List Nd) (b3 : Bool) (num : Int) (ex : Bool) (w : World) (A1 A2 A3 A4 : Option Addr) (c1 c2 c3 c4 : Nat) (hs : Sm (d + 1) (.mk 3 t v names tru asg decl kids els b3 num ex)) (hp : Shp (d + 1) (.mk 3 t v names tru asg decl kids els b3 num ex)) (hB : B ≤ w.heap.size) :
    Calls Tryz.prog 9 #[.agg #[.int .i64 3, .string t, .string v, .slice A1 names.length c1, .bool tru, .bool asg, .slice A2 decl.length c2, .slice A3 kids.length c3, .slice A4 els.length c4, .bool b3, .int .i64 num, .bool ex]] w (SpPost w (pr (d + 1) (.mk 3 t v names tru asg decl kids els b3 num ex))) := by
  have hlen := pr_small hs hp
  have e0 : pr (d + 1) (.mk 3 t v names tru asg decl kids els b3 num ex) = (if tru then [116, 114, 117, 101] else [102, 97, 108, 115, 101]) := by cases tru <;> simp [pr, Nd.kind, Nd.text, Nd.names, Nd.kids, Nd.decl, Nd.els, Nd.hasElse, Nd.assign, Nd.tru, firstD, secondD]
  rw [e0]
  clear hs hp e0 hlen
  generalize names.length = l1
  generalize decl.length = l2
  generalize kids.length = l3
  generalize els.length = l4
  cases tru
  all_goals
    go_enter Tryz.func9, Tryz.ntmps9
    go_wp2
    go_ret
    exact ⟨_, rfl, rfl, below_new _ _⟩

set_option maxHeartbeats 2000000 in
set_option maxRecDepth 100000 in
theorem sp_field (B d : Nat) (t v : ByteArray) (names : List ByteArray) (tru asg : Bool) (decl kids els : List Nd) (b3 : Bool) (num : Int) (ex : Bool) (w : World) (A1 A2 A3 A4 : Option Addr) (c1 c2 c3 c4 : Nat) (h1 : Strs w (· < B) (.slice A1 names.length c1) names) (hn : names.length ≤ 1048576) (hpos : 0 < names.length) (hs : Sm (d + 1) (.mk 7 t v names tru asg decl kids els b3 num ex)) (hp : Shp (d + 1) (.mk 7 t v names tru asg decl kids els b3 num ex)) (hB : B ≤ w.heap.size) :
    Calls Tryz.prog 9 #[.agg #[.int .i64 7, .string t, .string v, .slice A1 names.length c1, .bool tru, .bool asg, .slice A2 decl.length c2, .slice A3 kids.length c3, .slice A4 els.length c4, .bool b3, .int .i64 num, .bool ex]] w (SpPost w (pr (d + 1) (.mk 7 t v names tru asg decl kids els b3 num ex))) := by
  have hlen := pr_small hs hp
  have e0 : pr (d + 1) (.mk 7 t v names tru asg decl kids els b3 num ex) = 46 :: dotted names := by simp [pr, Nd.kind, Nd.text, Nd.names, Nd.kids, Nd.decl, Nd.els, Nd.hasElse, Nd.assign, Nd.tru, firstD, secondD, dots_dotted hpos]
  rw [e0] at hlen ⊢
  simp only [List.length_append, List.length_cons, List.length_nil, by'_len, lbr, rbr] at hlen
  have hj := joined_any (· < B) names A1 c1 ⟨#[46]⟩ [46] (w.alloc (.cells #[.int .i64 7, .string t, .string v, .slice A1 names.length c1, .bool tru, .bool asg, .slice A2 decl.length c2, .slice A3 kids.length c3, .slice A4 els.length c4, .bool b3, .int .i64 num, .bool ex] 25)) (h1.mono (fun _ h _ => h) (Keeps.of_below (below_new _ _))) rfl (by decide) hn (by show (dotted names).length ≤ _; omega)
  have HJ := Lib.hid hj
  have HLEN := Lib.hid hlen
  clear hs hp e0 hlen hj h1
  generalize names.length = l1 at *
  generalize decl.length = l2 at *
  generalize kids.length = l3 at *
  generalize els.length = l4 at *
  go_enter Tryz.func9, Tryz.ntmps9
  go_wp2_with fail
  refine Calls.mono HJ.out ?_
  rintro e w1 ⟨s, rfl, hx, rfl⟩
  have hz : s.size ≤ 41943040 := by rw [size_data hx]; have := HLEN.out; show (dotted names).length ≤ _; omega
  have HX := Lib.hid hx
  clear hx
  go_wp2
  go_ret
  exact ⟨_, rfl, by rw [append_data, HX.out]; rfl, below_new _ _⟩

set_option maxHeartbeats 2000000 in
set_option maxRecDepth 100000 in
theorem sp_var (B d : Nat) (t v : ByteArray) (names : List ByteArray) (tru asg : Bool) (decl kids els : List Nd) (b3 : Bool) (num : Int) (ex : Bool) (w : World) (A1 A2 A3 A4 : Option Addr) (c1 c2 c3 c4 : Nat) (h1 : Strs w (· < B) (.slice A1 names.length c1) names) (hn : names.length ≤ 1048576) (hs : Sm (d + 1) (.mk 17 t v names tru asg decl kids els b3 num ex)) (hp : Shp (d + 1) (.mk 17 t v names tru asg decl kids els b3 num ex)) (hB : B ≤ w.heap.size) :
    Calls Tryz.prog 9 #[.agg #[.int .i64 17, .string t, .string v, .slice A1 names.length c1, .bool tru, .bool asg, .slice A2 decl.length c2, .slice A3 kids.length c3, .slice A4 els.length c4, .bool b3, .int .i64 num, .bool ex]] w (SpPost w (pr (d + 1) (.mk 17 t v names tru asg decl kids els b3 num ex))) := by
  have hlen := pr_small hs hp
  have e0 : pr (d + 1) (.mk 17 t v names tru asg decl kids els b3 num ex) = dotted names := by simp [pr, Nd.kind, Nd.text, Nd.names, Nd.kids, Nd.decl, Nd.els, Nd.hasElse, Nd.assign, Nd.tru, firstD, secondD]
  rw [e0] at hlen ⊢
  have hj := joined_any (· < B) names A1 c1 ⟨#[46]⟩ [46] (w.alloc (.cells #[.int .i64 17, .string t, .string v, .slice A1 names.length c1, .bool tru, .bool asg, .slice A2 decl.length c2, .slice A3 kids.length c3, .slice A4 els.length c4, .bool b3, .int .i64 num, .bool ex] 25)) (h1.mono (fun _ h _ => h) (Keeps.of_below (below_new _ _))) rfl (by decide) hn (by show (dotted names).length ≤ _; omega)
  have HJ := Lib.hid hj
  have HLEN := Lib.hid hlen
  clear hs hp e0 hlen hj h1
  generalize names.length = l1 at *
  generalize decl.length = l2 at *
  generalize kids.length = l3 at *
  generalize els.length = l4 at *
  go_enter Tryz.func9, Tryz.ntmps9
  go_wp2_with fail
  refine Calls.mono HJ.out ?_
  rintro e w1 ⟨s, rfl, hx, rfl⟩
  have hz : s.size ≤ 41943040 := by rw [size_data hx]; have := HLEN.out; show (dotted names).length ≤ _; omega
  have HX := Lib.hid hx
  clear hx
  go_wp2
  go_ret
  exact ⟨_, rfl, HX.out, below_new _ _⟩

set_option maxHeartbeats 2000000 in
set_option maxRecDepth 100000 in
theorem sp_action (B d : Nat) (p : Nd) (ih : PrintAt B d) (t v : ByteArray) (names : List ByteArray) (tru asg : Bool) (decl els : List Nd) (b3 : Bool) (num : Int) (ex : Bool) (w : World) (A1 A2 A3 A4 : Option Addr) (c1 c2 c3 c4 : Nat) (h3 : Row w (· < B) 12 (SN w (· < B) d) (.slice A3 1 c3) [p]) (sp : Sm d p) (hpp : Shp d p) (hs : Sm (d + 1) (.mk 2 t v names tru asg decl [p] els b3 num ex)) (hp : Shp (d + 1) (.mk 2 t v names tru asg decl [p] els b3 num ex)) (hB : B ≤ w.heap.size) :
    Calls Tryz.prog 9 #[.agg #[.int .i64 2, .string t, .string v, .slice A1 names.length c1, .bool tru, .bool asg, .slice A2 decl.length c2, .slice A3 1 c3, .slice A4 els.length c4, .bool b3, .int .i64 num, .bool ex]] w (SpPost w (pr (d + 1) (.mk 2 t v names tru asg decl [p] els b3 num ex))) := by
  have hlen := pr_small hs hp
  have e0 : pr (d + 1) (.mk 2 t v names tru asg decl [p] els b3 num ex) = lbr ++ pr d p ++ rbr := by simp [pr, Nd.kind, Nd.text, Nd.names, Nd.kids, Nd.decl, Nd.els, Nd.hasElse, Nd.assign, Nd.tru, firstD, secondD]
  rw [e0] at hlen ⊢
  simp only [List.length_append, List.length_cons, List.length_nil, by'_len, lbr, rbr] at hlen
  have hzp : (pr d p).length ≤ 41943040 := by omega
  have HZP := Lib.hid hzp
  have IH := Lib.hid ih
  have SP := Lib.hid sp
  have PP := Lib.hid hpp
  clear hs hp e0 hlen hzp ih sp hpp
  have hr := h3.mono (S' := (· < B)) (R' := SN (w.alloc (.cells #[.int .i64 2, .string t, .string v, .slice A1 names.length c1, .bool tru, .bool asg, .slice A2 decl.length c2, .slice A3 1 c3, .slice A4 els.length c4, .bool b3, .int .i64 num, .bool ex] 25)) (· < B) d) (w' := w.alloc (.cells #[.int .i64 2, .string t, .string v, .slice A1 names.length c1, .bool tru, .bool asg, .slice A2 decl.length c2, .slice A3 1 c3, .slice A4 els.length c4, .bool b3, .int .i64 num, .bool ex] 25)) (fun cs a _ => SN.mono (fun _ h _ => h) (Keeps.of_below (below_new _ _)) d cs a) (fun _ h _ => h) (Keeps.of_below (below_new _ _))
  obtain ⟨p', b', o', B1, e1, B2, e2, B3, e3, B4, e4, hpk, rfl, _, _, hsn, _, hld⟩ := SN.ld (l := [p]) hr (k := 0) (by simp)
  obtain rfl : p = p' := hpk
  simp only [Nat.zero_mul, Nat.add_zero] at hld
  have SNj := Lib.hid hsn
  clear hr hsn
  generalize p.names.length = x1 at *
  generalize p.decl.length = x2 at *
  generalize p.kids.length = x3 at *
  generalize p.els.length = x4 at *
  clear h3
  generalize names.length = l1 at *
  generalize decl.length = l2 at *
  generalize els.length = l4 at *
  go_enter Tryz.func9, Tryz.ntmps9
  go_wp2_with fail
  refine Calls.mono (IH.out [_, _, _, _, _, _, _, _, _, _, _, _] p _ SNj.out SP.out PP.out (by simp only [World.size_alloc]; omega)) ?_
  rintro e w1 ⟨s, rfl, hx, hb⟩
  have hz : s.size ≤ 41943040 := by rw [size_data hx]; exact HZP.out
  have HX := Lib.hid hx
  have HB := Lib.hid hb
  clear hx hb hld
  go_wp2
  go_ret
  exact ⟨_, rfl, by rw [append_data, append_data, HX.out]; rfl, below_alloc HB.out⟩

set_option maxHeartbeats 2000000 in
set_option maxRecDepth 100000 in
theorem sp_list (B d : Nat) (ih : PrintAt B d) (t v : ByteArray) (names : List ByteArray) (tru asg : Bool) (decl kids els : List Nd) (b3 : Bool) (num : Int) (ex : Bool) (w : World) (A1 A2 A3 A4 : Option Addr) (c1 c2 c3 c4 : Nat) (h3 : Row w (· < B) 12 (SN w (· < B) d) (.slice A3 kids.length c3) kids) (s3 : Sms d kids) (p3 : ∀ a ∈ kids, Shp d a) (hs : Sm (d + 1) (.mk 10 t v names tru asg decl kids els b3 num ex)) (hp : Shp (d + 1) (.mk 10 t v names tru asg decl kids els b3 num ex)) (hB : B ≤ w.heap.size) :
    Calls Tryz.prog 9 #[.agg #[.int .i64 10, .string t, .string v, .slice A1 names.length c1, .bool tru, .bool asg, .slice A2 decl.length c2, .slice A3 kids.length c3, .slice A4 els.length c4, .bool b3, .int .i64 num, .bool ex]] w (SpPost w (pr (d + 1) (.mk 10 t v names tru asg decl kids els b3 num ex))) := by
  have hlen := pr_small hs hp
  have e0 : pr (d + 1) (.mk 10 t v names tru asg decl kids els b3 num ex) = kids.flatMap (pr d) := by simp [pr, Nd.kind, Nd.text, Nd.names, Nd.kids, Nd.decl, Nd.els, Nd.hasElse, Nd.assign, Nd.tru, firstD, secondD]
  rw [e0] at hlen ⊢
  have HLEN := Lib.hid hlen
  have IH := Lib.hid ih
  have H3 := Lib.hid h3
  have S3 := Lib.hid s3
  have P3 := Lib.hid p3
  clear hs hp e0 hlen ih h3 s3 p3
  generalize names.length = l1 at *
  generalize decl.length = l2 at *
  generalize els.length = l4 at *
  go_enter Tryz.func9, Tryz.ntmps9
  go_wp2_with fail
  refine Calls.mono (prints_any B d IH.out kids A3 c3 _ (Row.mono (fun cs a _ => SN.mono (fun _ h _ => h) (Keeps.of_below (below_new _ _)) d cs a) (fun _ h _ => h) (Keeps.of_below (below_new _ _)) H3.out) S3.out P3.out (by simp only [World.size_alloc]; omega)) ?_
  rintro e w1 ⟨A1', c1', L1, rfl, hL, hst, hb⟩
  have hl1 : L1.length ≤ 1048576 := by
    have h := congrArg List.length hL
    simp only [List.length_map] at h
    have := S3.out.1
    omega
  have HL1 := Lib.hid hL
  have ST1 := Lib.hid hst
  have HB := Lib.hid hb
  clear hL hst hb
  go_wp2_with fail
  refine Calls.mono (joined_any (fun _ => True) L1 A1' c1' ⟨#[]⟩ [] w1 ST1.out rfl (by decide) hl1 (by rw [HL1.out, list_joinL]; have := HLEN.out; omega)) ?_
  rintro e w2 ⟨s, rfl, hx, rfl⟩
  have HX := Lib.hid hx
  clear hx
  go_wp2
  go_ret
  exact ⟨_, rfl, by rw [HX.out, HL1.out, list_joinL], below_alloc HB.out⟩

set_option maxHeartbeats 2000000 in
set_option maxRecDepth 100000 in
theorem sp_pipe0 (B d : Nat) (ih : PrintAt B d) (t v : ByteArray) (names : List ByteArray) (tru asg : Bool) (decl kids els : List Nd) (b3 : Bool) (num : Int) (ex : Bool) (w : World) (A1 A2 A3 A4 : Option Addr) (c1 c2 c3 c4 : Nat) (h3 : Row w (· < B) 12 (SN w (· < B) d) (.slice A3 kids.length c3) kids) (s3 : Sms d kids) (p3 : ∀ a ∈ kids, Shp d a) (hd : decl = []) (hs : Sm (d + 1) (.mk 13 t v names tru asg decl kids els b3 num ex)) (hp : Shp (d + 1) (.mk 13 t v names tru asg decl kids els b3 num ex)) (hB : B ≤ w.heap.size) :
    Calls Tryz.prog 9 #[.agg #[.int .i64 13, .string t, .string v, .slice A1 names.length c1, .bool tru, .bool asg, .slice A2 decl.length c2, .slice A3 kids.length c3, .slice A4 els.length c4, .bool b3, .int .i64 num, .bool ex]] w (SpPost w (pr (d + 1) (.mk 13 t v names tru asg decl kids els b3 num ex))) := by
  have hlen := pr_small hs hp
  subst hd
  have e0 : pr (d + 1) (.mk 13 t v names tru asg [] kids els b3 num ex) = joinL [32, 124, 32] (kids.map (pr d)) := by simp [pr, Nd.kind, Nd.text, Nd.names, Nd.kids, Nd.decl, Nd.els, Nd.hasElse, Nd.assign, Nd.tru, firstD, secondD]
  rw [e0] at hlen ⊢
  have HLEN := Lib.hid hlen
  have IH := Lib.hid ih
  have H3 := Lib.hid h3
  have S3 := Lib.hid s3
  have P3 := Lib.hid p3
  clear hs hp e0 hlen ih h3 s3 p3
  generalize names.length = l1 at *
  generalize els.length = l4 at *
  rw [show ([] : List Nd).length = 0 from rfl]
  go_enter Tryz.func9, Tryz.ntmps9
  go_wp2_with fail
  refine Calls.mono (prints_any B d IH.out kids A3 c3 _ (Row.mono (fun cs a _ => SN.mono (fun _ h _ => h) (Keeps.of_below (below_new _ _)) d cs a) (fun _ h _ => h) (Keeps.of_below (below_new _ _)) H3.out) S3.out P3.out (by simp only [World.size_alloc]; omega)) ?_
  rintro e w1 ⟨A1', c1', L1, rfl, hL, hst, hb⟩
  have hl1 : L1.length ≤ 1048576 := by
    have h := congrArg List.length hL
    simp only [List.length_map] at h
    have := S3.out.1
    omega
  have HL1 := Lib.hid hL
  have ST1 := Lib.hid hst
  have q5 := box_at hb 5
  have q6 := box_at hb 6
  have HB := Lib.hid (below_alloc hb)
  clear hL hst hb
  go_wp2_with fail
  refine Calls.mono (joined_any (fun _ => True) L1 A1' c1' ⟨#[32, 124, 32]⟩ [32, 124, 32] w1 ST1.out rfl (by decide) hl1 (by rw [HL1.out]; have := HLEN.out; omega)) ?_
  rintro e w2 ⟨s, rfl, hx, rfl⟩
  have hz : s.size ≤ 41943040 := by rw [size_data hx, HL1.out]; have := HLEN.out; omega
  have HX := Lib.hid hx
  clear hx
  go_wp2
  go_ret
  exact ⟨_, rfl, by rw [HX.out, HL1.out], HB.out⟩

set_option maxHeartbeats 2000000 in
set_option maxRecDepth 100000 in
theorem sp_pipe1 (B d : Nat) (ih : PrintAt B d) (t v : ByteArray) (names : List ByteArray) (tru asg : Bool) (decl kids els : List Nd) (b3 : Bool) (num : Int) (ex : Bool) (w : World) (A1 A2 A3 A4 : Option Addr) (c1 c2 c3 c4 : Nat) (h3 : Row w (· < B) 12 (SN w (· < B) d) (.slice A3 kids.length c3) kids) (s3 : Sms d kids) (p3 : ∀ a ∈ kids, Shp d a) (h2 : Row w (· < B) 12 (SN w (· < B) d) (.slice A2 decl.length c2) decl) (s2 : Sms d decl) (p2 : ∀ a ∈ decl, Shp d a) (hd : 0 < decl.length) (hs : Sm (d + 1) (.mk 13 t v names tru asg decl kids els b3 num ex)) (hp : Shp (d + 1) (.mk 13 t v names tru asg decl kids els b3 num ex)) (hB : B ≤ w.heap.size) :
    Calls Tryz.prog 9 #[.agg #[.int .i64 13, .string t, .string v, .slice A1 names.length c1, .bool tru, .bool asg, .slice A2 decl.length c2, .slice A3 kids.length c3, .slice A4 els.length c4, .bool b3, .int .i64 num, .bool ex]] w (SpPost w (pr (d + 1) (.mk 13 t v names tru asg decl kids els b3 num ex))) := by
  have hlen := pr_small hs hp
  have hne : decl ≠ [] := fun e => by rw [e] at hd; simp at hd
  have e0 : pr (d + 1) (.mk 13 t v names tru asg decl kids els b3 num ex) = joinL [44, 32] (decl.map (pr d)) ++ asgD asg ++ joinL [32, 124, 32] (kids.map (pr d)) := by cases asg <;> simp [pr, Nd.kind, Nd.text, Nd.names, Nd.kids, Nd.decl, Nd.els, Nd.hasElse, Nd.assign, Nd.tru, firstD, secondD, hne, asgD]
  rw [e0] at hlen ⊢
  simp only [List.length_append, List.length_cons, List.length_nil, by'_len, lbr, rbr] at hlen
  have hd' : ((decl.length : Int) == 0) = false := by rw [beq_eq_false_iff_ne]; omega
  have H2 := Lib.hid h2
  have S2 := Lib.hid s2
  have P2 := Lib.hid p2
  clear hne h2 s2 p2
  have HLEN := Lib.hid hlen
  have IH := Lib.hid ih
  have H3 := Lib.hid h3
  have S3 := Lib.hid s3
  have P3 := Lib.hid p3
  clear hs hp e0 hlen ih h3 s3 p3
  generalize names.length = l1 at *
  generalize els.length = l4 at *
  cases asg
  · go_enter Tryz.func9, Tryz.ntmps9
    go_wp2_with fail
    refine Calls.mono (prints_any B d IH.out kids A3 c3 _ (Row.mono (fun cs a _ => SN.mono (fun _ h _ => h) (Keeps.of_below (below_new _ _)) d cs a) (fun _ h _ => h) (Keeps.of_below (below_new _ _)) H3.out) S3.out P3.out (by simp only [World.size_alloc]; omega)) ?_
    rintro e w1 ⟨A1', c1', L1, rfl, hL, hst, hb⟩
    have hl1 : L1.length ≤ 1048576 := by
      have h := congrArg List.length hL
      simp only [List.length_map] at h
      have := S3.out.1
      omega
    have HL1 := Lib.hid hL
    have ST1 := Lib.hid hst
    have q5 := box_at hb 5
    have q6 := box_at hb 6
    have HB := Lib.hid (below_alloc hb)
    clear hL hst hb
    go_wp2_with fail
    refine Calls.mono (joined_any (fun _ => True) L1 A1' c1' ⟨#[32, 124, 32]⟩ [32, 124, 32] w1 ST1.out rfl (by decide) hl1 (by rw [HL1.out]; have := HLEN.out; omega)) ?_
    rintro e w2 ⟨s, rfl, hx, rfl⟩
    have hz : s.size ≤ 41943040 := by rw [size_data hx, HL1.out]; have := HLEN.out; omega
    have HX := Lib.hid hx
    clear hx
    go_wp2_with fail
    refine Calls.mono (prints_any B d IH.out decl A2 c2 _ (Row.mono (fun cs a _ => SN.mono (fun _ h _ => h) (Keeps.of_below HB.out) d cs a) (fun _ h _ => h) (Keeps.of_below HB.out) H2.out) S2.out P2.out (Nat.le_trans hB HB.out.size)) ?_
    rintro e w3 ⟨A3', c3', L3, rfl, hL, hst, hb⟩
    have hl3 : L3.length ≤ 1048576 := by
      have h := congrArg List.length hL
      simp only [List.length_map] at h
      have := S2.out.1
      omega
    have HL3 := Lib.hid hL
    have ST3 := Lib.hid hst
    have HB3 := Lib.hid (below_trans HB.out hb)
    clear hL hst hb
    go_wp2_with fail
    refine Calls.mono (joined_any (fun _ => True) L3 A3' c3' ⟨#[44, 32]⟩ [44, 32] w3 ST3.out rfl (by decide) hl3 (by rw [HL3.out]; have := HLEN.out; omega)) ?_
    rintro e w4 ⟨s', rfl, hx', rfl⟩
    have hz' : s'.size ≤ 41943040 := by rw [size_data hx', HL3.out]; have := HLEN.out; omega
    have HX' := Lib.hid hx'
    clear hx'
    go_wp2
    go_ret
    exact ⟨_, rfl, by rw [append_data, append_data, HX.out, HX'.out, HL1.out, HL3.out]; rfl, HB3.out⟩
  · go_enter Tryz.func9, Tryz.ntmps9
    go_wp2_with fail
    refine Calls.mono (prints_any B d IH.out kids A3 c3 _ (Row.mono (fun cs a _ => SN.mono (fun _ h _ => h) (Keeps.of_below (below_new _ _)) d cs a) (fun _ h _ => h) (Keeps.of_below (below_new _ _)) H3.out) S3.out P3.out (by simp only [World.size_alloc]; omega)) ?_
    rintro e w1 ⟨A1', c1', L1, rfl, hL, hst, hb⟩
    have hl1 : L1.length ≤ 1048576 := by
      have h := congrArg List.length hL
      simp only [List.length_map] at h
      have := S3.out.1
      omega
    have HL1 := Lib.hid hL
    have ST1 := Lib.hid hst
    have q5 := box_at hb 5
    have q6 := box_at hb 6
    have HB := Lib.hid (below_alloc hb)
    clear hL hst hb
    go_wp2_with fail
    refine Calls.mono (joined_any (fun _ => True) L1 A1' c1' ⟨#[32, 124, 32]⟩ [32, 124, 32] w1 ST1.out rfl (by decide) hl1 (by rw [HL1.out]; have := HLEN.out; omega)) ?_
    rintro e w2 ⟨s, rfl, hx, rfl⟩
    have hz : s.size ≤ 41943040 := by rw [size_data hx, HL1.out]; have := HLEN.out; omega
    have HX := Lib.hid hx
    clear hx
    go_wp2_with fail
    refine Calls.mono (prints_any B d IH.out decl A2 c2 _ (Row.mono (fun cs a _ => SN.mono (fun _ h _ => h) (Keeps.of_below HB.out) d cs a) (fun _ h _ => h) (Keeps.of_below HB.out) H2.out) S2.out P2.out (Nat.le_trans hB HB.out.size)) ?_
    rintro e w3 ⟨A3', c3', L3, rfl, hL, hst, hb⟩
    have hl3 : L3.length ≤ 1048576 := by
      have h := congrArg List.length hL
      simp only [List.length_map] at h
      have := S2.out.1
      omega
    have HL3 := Lib.hid hL
    have ST3 := Lib.hid hst
    have HB3 := Lib.hid (below_trans HB.out hb)
    clear hL hst hb
    go_wp2_with fail
    refine Calls.mono (joined_any (fun _ => True) L3 A3' c3' ⟨#[44, 32]⟩ [44, 32] w3 ST3.out rfl (by decide) hl3 (by rw [HL3.out]; have := HLEN.out; omega)) ?_
    rintro e w4 ⟨s', rfl, hx', rfl⟩
    have hz' : s'.size ≤ 41943040 := by rw [size_data hx', HL3.out]; have := HLEN.out; omega
    have HX' := Lib.hid hx'
    clear hx'
    go_wp2
    go_ret
    exact ⟨_, rfl, by rw [append_data, append_data, HX.out, HX'.out, HL1.out, HL3.out]; rfl, HB3.out⟩

set_option maxHeartbeats 4000000 in
set_option maxRecDepth 100000 in
theorem sp_command (B d : Nat) (ih : PrintAt B d) (t v : ByteArray) (names : List ByteArray) (tru asg : Bool) (decl kids els : List Nd) (b3 : Bool) (num : Int) (ex : Bool) (w : World) (A1 A2 A3 A4 : Option Addr) (c1 c2 c3 c4 : Nat) (h3 : Row w (· < B) 12 (SN w (· < B) d) (.slice A3 kids.length c3) kids) (s3 : Sms d kids) (p3 : ∀ a ∈ kids, Shp d a) (hs : Sm (d + 1) (.mk 5 t v names tru asg decl kids els b3 num ex)) (hp : Shp (d + 1) (.mk 5 t v names tru asg decl kids els b3 num ex)) (hB : B ≤ w.heap.size) :
    Calls Tryz.prog 9 #[.agg #[.int .i64 5, .string t, .string v, .slice A1 names.length c1, .bool tru, .bool asg, .slice A2 decl.length c2, .slice A3 kids.length c3, .slice A4 els.length c4, .bool b3, .int .i64 num, .bool ex]] w (SpPost w (pr (d + 1) (.mk 5 t v names tru asg decl kids els b3 num ex))) := by
  have hlen := pr_small hs hp
  have e0 : pr (d + 1) (.mk 5 t v names tru asg decl kids els b3 num ex) = joinL [32] (kids.map (argD (pr d))) := by simp [pr, Nd.kind, Nd.text, Nd.names, Nd.kids, Nd.decl, Nd.els, Nd.hasElse, Nd.assign, Nd.tru, firstD, secondD]
  rw [e0] at hlen ⊢
  have HLEN := Lib.hid hlen
  have y := s3.1
  have IH := Lib.hid ih
  have H3 := Lib.hid h3
  have S3 := Lib.hid s3
  have P3 := Lib.hid p3
  clear hs hp e0 hlen ih h3 s3 p3
  obtain ⟨i0, hi, hz0, hz1, hz2⟩ := info_parts infoStrSp
  generalize names.length = l1 at *
  generalize decl.length = l2 at *
  generalize els.length = l4 at *
  generalize hm : kids.length = m at *
  have M := Lib.hid hm
  clear hm
  go_enter Tryz.func9, Tryz.ntmps9
  go_wp2_with fail
  go_loopw [3, 72] (fun a i wr => ∃ (k : Nat) (A' : Option Addr) (n' c' : Nat) (L : List ByteArray), k ≤ m ∧ a = .slice A' n' c' ∧ i = .int .i64 k ∧ Hid (OwnS w.heap.size (.slice A' n' c') L wr) ∧ Hid (L.map by' = (kids.take k).map (argD (pr d))) ∧ Hid (Below w.heap.size w wr)) (fun _ i _ => m - (intOf i).toNat)
  case atStart => exact ⟨0, _, _, _, [], Nat.zero_le _, rfl, rfl, Lib.hid (World.ownsRow_nil _ _ _ _), Lib.hid rfl, Lib.hid (below_new _ _)⟩
  case round =>
    obtain ⟨k, A1', n1, c1', L, hk, rfl, rfl, ho, hL, hbl⟩ := hrel
    have BL := hbl.out.size
    by_cases hlt : k < m
    · have hlt' : k < kids.length := by rw [M.out]; exact hlt
      have hr : Row wr (· < B) 12 (SN wr (· < B) d) (.slice A3 m c3) kids := H3.out.mono (fun cs a _ => SN.mono (fun _ h _ => h) (Keeps.of_below hbl.out) d cs a) (fun _ h _ => h) (Keeps.of_below hbl.out)
      rw [← M.out] at hr
      obtain ⟨p, b', o', B1, e1, B2, e2, B3, e3, B4, e4, hpk, rfl, _, _, hsn, _, hld⟩ := SN.ld hr hlt'
      have hsm : Sm d kids[k] := S3.out.2 _ (List.getElem_mem _)
      have hsp : Shp d kids[k] := P3.out _ (List.getElem_mem _)
      rw [hpk] at hsm hsp
      have P := Lib.hid hpk
      have SNj := Lib.hid hsn
      have SMj := Lib.hid hsm
      have SPj := Lib.hid hsp
      have hLl : L.length = k := by
        have := congrArg List.length hL.out
        simp only [List.length_map, List.length_take] at this
        omega
      have HLL := Lib.hid hLl
      clear hr hsn hsm hpk hsp hLl
      generalize p.names.length = x1 at *
      generalize p.decl.length = x2 at *
      generalize p.kids.length = x3 at *
      generalize p.els.length = x4 at *
      go_wp2_with fail
      refine Calls.mono (argument_any B d IH.out [_, _, _, _, _, _, _, _, _, _, _, _] p _ (SN.mono (fun _ h _ => h) (Keeps.of_below (below_new _ _)) _ _ _ SNj.out) SMj.out SPj.out (by simp only [World.size_alloc]; omega)) ?_
      rintro e w1 ⟨s, rfl, hx, hb⟩
      have HX := Lib.hid hx
      have hb' := below_alloc hb
      have ho1 := ho.out.below hb'
      have hs1 := hb'.size
      have HO1 := Lib.hid ho1
      have hown : w1.ownsRow w.heap.size 9 1 (.slice A1' n1 c1') L.length (L.map Value.string) := ho1
      have HB1 := Lib.hid (hbl.out.trans (hb'.mono BL))
      clear hx hb hb' ho1
      go_wp2_with (at_builtin; refine wpList_append_own _ rfl _ _ 22 rfl w.heap.size 9 i0 (.string ⟨#[]⟩) 1 16 Tryz.underlying22 hi hz0 hz1 hz2 rfl (by decide) _ _ _ rfl (hown.alloc _) ⟨w1.heap.size, 0, none⟩ 1 1 [.string s] rfl rfl ?c1 ?c2 ?c3 ?c4 ?c5 ?_)
      case c1 =>
        intro j u hj
        match j, hj with
        | 0, hj => simp at hj; subst hj; simp [Addr.add]
      case c2 => intro u hu; simp at hu; subst hu; rfl
      case c3 => have := HLL.out; unfold maxLen; omega
      case c4 => have := HLL.out; omega
      case c5 => simp; omega
      intro v' w2 hown' hgrow _
      have hq := HO1.out.append (s := s) (by omega) hown' hgrow
      have HQ := Lib.hid hq
      obtain ⟨A', c', rfl⟩ := hq.1.form
      clear hq hown hgrow hown'
      go_wp2_with fail
      go_roundw
      case rel =>
        have r1 : (L ++ [s]).map by' = (kids.take (k + 1)).map (argD (pr d)) := by
          rw [take_succ' hlt', List.map_append, List.map_append, hL.out, P.out]
          simp only [List.map_cons, List.map_nil]
          rw [show by' s = argD (pr d) p from HX.out]
        first
          | exact ⟨k + 1, _, _, _, _, by omega, rfl, by go_num, Lib.hid HQ.out.1, Lib.hid r1, Lib.hid (HB1.out.trans HQ.out.2)⟩
          | ((repeat apply Exists.intro); exact ⟨⟨k + 1, _, _, _, _, by omega, rfl, by go_num, Lib.hid HQ.out.1, Lib.hid r1, Lib.hid (HB1.out.trans HQ.out.2)⟩, rfl⟩)
      case measure => simp [intOf]; omega
    · have hk' : k = m := by omega
      subst hk'
      obtain ⟨rfl, hst⟩ := ho.out.strs
      have hl1 : L.length ≤ 1048576 := by
        have h := congrArg List.length hL.out
        simp only [List.length_map, List.length_take] at h
        omega
      have hL' : L.map by' = kids.map (argD (pr d)) := by
        have h := hL.out
        rwa [List.take_of_length_le (by rw [M.out]; exact Nat.le_refl _)] at h
      have HL := Lib.hid hL'
      have hj := joined_any (fun _ => True) L A1' c1' ⟨#[32]⟩ [32] wr hst rfl (by decide) hl1 (by rw [hL']; have := HLEN.out; omega)
      have HJ := Lib.hid hj
      clear hst hj hL' ho
      generalize L.length = q at *
      go_wp2_with fail
      refine Calls.mono HJ.out ?_
      rintro e w2 ⟨s, rfl, hx, rfl⟩
      have HX := Lib.hid hx
      clear hx
      go_wp2
      go_ret
      exact ⟨_, rfl, by rw [HX.out, HL.out], hbl.out⟩

end Go.Proofs.YtiogfkpclkkoaaaGreat
