/-
  The walks of spec.Empty and spec.Asked.
-/
import Derived.Test.YtpoedkaggfojgaaGreatDoorWideS
import Derived.Test.YtpoedkaggfojgaaGreatDoorEmptyD
import Derived.LoopTactic
import Derived.Deep.LoopGhost
import Derived.Deep.DeepCutAuto
import Derived.BigGuardPart
set_option linter.unusedVariables false
set_option linter.unusedSimpArgs false
namespace Go.Proofs.YtpoedkaggfojgaaGreatDoor
open Go.RowKit

def WsTo (s : ByteArray) (k : Nat) : Prop := ∀ i, (h : i < s.size) → i < k → wsN (s[i]'h).toNat = true
theorem WsTo.succ {s : ByteArray} {k : Nat} (h : WsTo s k) (hk : k < s.size) (hw : wsN s[k].toNat = true) : WsTo s (k + 1) := fun i hi hlt => by
  rcases Nat.lt_or_ge i k with h' | h'
  · exact h i hi h'
  · obtain rfl : i = k := by omega
    exact hw
theorem wsText_get {s : ByteArray} : wsText s = true ↔ ∀ i, (h : i < s.size) → wsN (s[i]'h).toNat = true := by
  unfold wsText
  rw [List.all_eq_true]
  constructor
  · intro hall i h
    exact hall _ (List.getElem_mem (by simpa using h : i < s.data.toList.length))
  · intro hall c hc
    obtain ⟨i, hi, rfl⟩ := List.getElem_of_mem hc
    exact hall i (by simpa using hi)

theorem wsN_iff {c : Nat} : wsN c = true ↔ c = 32 ∨ (9 ≤ c ∧ c ≤ 13) := by simp [wsN]
theorem wsText_no {s : ByteArray} {k : Nat} (h : k < s.size) (hw : ¬ (s[k].toNat = 32 ∨ (9 ≤ s[k].toNat ∧ s[k].toNat ≤ 13))) : wsText s = false := by
  cases hh : wsText s with
  | false => rfl
  | true => exact absurd (wsN_iff.1 (wsText_get.1 hh k h)) hw

attribute [local go_sem ↓] stS ldS
attribute [local go_sem] run_stS run_ldS_new

def EmptyPost (w : World) (d : Nat) (n : Nd) (e : Ending) (w' : World) : Prop := e = .returned (.bool (emptyD d n)) ∧ Below w.heap.size w w'

set_option maxHeartbeats 1000000 in
set_option maxRecDepth 100000 in
theorem empty_text (d : Nat) (t v : ByteArray) (names : List ByteArray) (tru asg : Bool) (decl kids els : List Nd) (b3 : Bool) (num : Int) (ex : Bool) (w : World) (A1 A2 A3 A4 : Option Addr) (m1 m2 m3 m4 c1 c2 c3 c4 : Nat) (ht : t.size ≤ 1048576) :
    Calls Tryz.prog 9 #[.agg #[.int .i64 1, .string t, .string v, .slice A1 m1 c1, .bool tru, .bool asg, .slice A2 m2 c2, .slice A3 m3 c3, .slice A4 m4 c4, .bool b3, .int .i64 num, .bool ex]] w
      (EmptyPost w (d + 1) (.mk 1 t v names tru asg decl kids els b3 num ex)) := by
  have e0 : emptyD (d + 1) (.mk 1 t v names tru asg decl kids els b3 num ex) = wsText t := rfl
  unfold EmptyPost
  rw [e0]
  clear e0
  go_enter Tryz.func9, Tryz.ntmps9
  go_wp2
  go_loop [16] (fun i => ∃ k : Nat, k ≤ t.size ∧ i = .int .i64 k ∧ Hid (WsTo t k)) (fun i => t.size - (intOf i).toNat)
  case atStart => exact ⟨0, Nat.zero_le _, rfl, Lib.hid fun _ _ h => absurd h (by omega)⟩
  case round =>
    obtain ⟨k, hk, rfl, hto⟩ := hrel
    by_cases hlt : k < t.size
    · go_wp2
      all_goals first
        | (go_ret
           refine ⟨?_, below_new _ _⟩
           rw [wsText_no hlt (by omega)]
           rfl)
        | (go_round
           case rel => exact ⟨k + 1, by omega, by go_num, Lib.hid (hto.out.succ hlt (wsN_iff.2 (by omega)))⟩
           case measure => simp [intOf]; omega)
    · have he : k = t.size := by omega
      subst he
      go_wp2
      go_ret
      refine ⟨?_, below_new _ _⟩
      rw [show wsText t = true from wsText_get.2 fun i h => hto.out i h h]
      rfl

set_option maxHeartbeats 1000000 in
set_option maxRecDepth 100000 in
theorem empty_list (B d : Nat) (ih : ∀ cs n w, SN w (· < B) d cs n → Sm d n → B ≤ w.heap.size → Calls Tryz.prog 9 #[.agg cs.toArray] w (EmptyPost w d n))
    (t v : ByteArray) (names : List ByteArray) (tru asg : Bool) (decl kids els : List Nd) (b3 : Bool) (num : Int) (ex : Bool) (w : World) (A1 A2 A3 A4 : Option Addr) (m1 m2 m4 c1 c2 c3 c4 : Nat)
    (h3 : Row w (· < B) 12 (SN w (· < B) d) (.slice A3 kids.length c3) kids) (s3 : Sms d kids) (hB : B ≤ w.heap.size) :
    Calls Tryz.prog 9 #[.agg #[.int .i64 10, .string t, .string v, .slice A1 m1 c1, .bool tru, .bool asg, .slice A2 m2 c2, .slice A3 kids.length c3, .slice A4 m4 c4, .bool b3, .int .i64 num, .bool ex]] w
      (EmptyPost w (d + 1) (.mk 10 t v names tru asg decl kids els b3 num ex)) := by
  have e0 : emptyD (d + 1) (.mk 10 t v names tru asg decl kids els b3 num ex) = kids.all (emptyD d) := rfl
  unfold EmptyPost
  rw [e0]
  clear e0
  have IH := Lib.hid ih
  have H3 := Lib.hid h3
  have y := s3.1
  have S3 := Lib.hid s3
  clear ih h3 s3
  generalize hm : kids.length = m at *
  have M := Lib.hid hm
  clear hm
  go_enter Tryz.func9, Tryz.ntmps9
  go_wp2
  go_loopw [39] (fun i wr => ∃ k : Nat, k ≤ m ∧ i = .int .i64 k ∧ Below w.heap.size w wr ∧ Hid (∀ j, (h : j < kids.length) → j < k → emptyD d kids[j] = true)) (fun i _ => m - (intOf i).toNat)
  case atStart => exact ⟨0, Nat.zero_le _, rfl, below_new _ _, Lib.hid fun j h hj => absurd hj (by omega)⟩
  case round =>
    obtain ⟨k, hk, rfl, hbl, hall⟩ := hrel
    have BL := Lib.hid hbl
    clear hbl
    by_cases hlt : k < m
    · have hlt' : k < kids.length := by rw [M.out]; exact hlt
      have hr : Row wr (· < B) 12 (SN wr (· < B) d) (.slice A3 m c3) kids := H3.out.mono (fun cs a _ => SN.mono (fun _ h _ => h) (Keeps.of_below BL.out) d cs a) (fun _ h _ => h) (Keeps.of_below BL.out)
      rw [← M.out] at hr
      obtain ⟨p, b', o', B1, e1, B2, e2, B3, e3, B4, e4, hp, rfl, _, _, hsn, _, hld⟩ := SN.ld hr hlt'
      have hsm : Sm d kids[k] := S3.out.2 _ (List.getElem_mem _)
      rw [hp] at hsm
      have P := Lib.hid hp
      have SNj := Lib.hid hsn
      have SMj := Lib.hid hsm
      clear hr hsn hsm hp
      generalize p.names.length = l1 at *
      generalize p.decl.length = l2 at *
      generalize p.kids.length = l3 at *
      generalize p.els.length = l4 at *
      cases hb : emptyD d p with
      | true =>
        have HB := Lib.hid hb
        clear hb
        go_wp2_with (go_at_call 9; refine Calls.mono (IH.out [_, _, _, _, _, _, _, _, _, _, _, _] p _ ?_ SMj.out ?_) ?_; exact (SN.mono (fun _ h _ => h) (Keeps.of_below (below_new _ _)) _ _ _ SNj.out); (have := BL.out.size; simp only [World.size_alloc]; omega); rintro e w1 ⟨rfl, hb1⟩; rw [HB.out]; replace hb1 := Lib.hid hb1)
        go_roundw
        case rel =>
          refine ⟨k + 1, by omega, by go_num, BL.out.trans ((below_alloc hb1.out).mono BL.out.size), Lib.hid fun j h hj => ?_⟩
          rcases Nat.lt_or_ge j k with h' | h'
          · exact hall.out j h h'
          · obtain rfl : j = k := by omega
            rw [P.out]; exact HB.out
        case measure => simp [intOf]; omega
      | false =>
        have HB := Lib.hid hb
        clear hb
        go_wp2_with (go_at_call 9; refine Calls.mono (IH.out [_, _, _, _, _, _, _, _, _, _, _, _] p _ ?_ SMj.out ?_) ?_; exact (SN.mono (fun _ h _ => h) (Keeps.of_below (below_new _ _)) _ _ _ SNj.out); (have := BL.out.size; simp only [World.size_alloc]; omega); rintro e w1 ⟨rfl, hb1⟩; rw [HB.out]; replace hb1 := Lib.hid hb1)
        go_ret
        refine ⟨?_, BL.out.trans ((below_alloc hb1.out).mono BL.out.size)⟩
        have : kids.all (emptyD d) = false := by
          rw [List.all_eq_false]
          exact ⟨p, by rw [← P.out]; exact List.getElem_mem _, by rw [HB.out]; simp⟩
        rw [this]
        rfl
    · have hk' : k = m := by omega
      subst hk'
      go_wp2
      go_ret
      refine ⟨?_, BL.out⟩
      have : kids.all (emptyD d) = true := by
        rw [List.all_eq_true]
        intro p hp
        obtain ⟨j, hj, rfl⟩ := List.getElem_of_mem hp
        exact hall.out j hj (by have := M.out; omega)
      rw [this]
      rfl

theorem empty_any (B : Nat) : ∀ (d : Nat) cs n w, SN w (· < B) d cs n → Sm d n → B ≤ w.heap.size → Calls Tryz.prog 9 #[.agg cs.toArray] w (EmptyPost w d n)
  | 0, _, _, _, h, _, _ => h.elim
  | d + 1, cs, n, w, h, hs, hB => by
    have ih := empty_any B d
    obtain ⟨s2, s3, s4, _⟩ := hs.parts h
    have ht : n.text.size ≤ 1048576 := by simp only [Sm, wt] at hs; omega
    obtain ⟨nv, dv, kv, ev, rfl, h1, h2, h3, h4⟩ := h
    obtain ⟨A1, c1, rfl⟩ := h1.form
    obtain ⟨A2, c2, rfl⟩ := h2.form
    obtain ⟨A3, c3, rfl⟩ := h3.form
    obtain ⟨A4, c4, rfl⟩ := h4.form
    cases n with
    | mk k t v names tru asg decl kids els b3 num ex =>
      by_cases k19 : k = 19
      · subst k19
        show Calls _ _ #[.agg #[_, _, _, _, _, _, _, _, _, _, _, _]] _ _
        have e0 : emptyD (d + 1) (.mk 19 t v names tru asg decl kids els b3 num ex) = true := rfl
        unfold EmptyPost
        rw [e0]
        clear h1 h2 h3 h4 ih s2 s3 s4 hs e0
        simp only [Nd.kind, Nd.text, Nd.value, Nd.names, Nd.tru, Nd.assign, Nd.decl, Nd.kids, Nd.els, Nd.hasElse, Nd.num, Nd.exact]
        generalize names.length = m1
        generalize decl.length = m2
        generalize kids.length = m3
        generalize els.length = m4
        go_enter Tryz.func9, Tryz.ntmps9
        go_wp2
        go_ret
        exact ⟨rfl, below_new _ _⟩
      by_cases k1 : k = 1
      · subst k1
        exact empty_text d t v names tru asg decl kids els b3 num ex w A1 A2 A3 A4 _ _ _ _ c1 c2 c3 c4 ht
      by_cases k10 : k = 10
      · subst k10
        exact empty_list B d ih t v names tru asg decl kids els b3 num ex w A1 A2 A3 A4 _ _ _ c1 c2 c3 c4 h3 s3 hB
      · show Calls _ _ #[.agg #[_, _, _, _, _, _, _, _, _, _, _, _]] _ _
        have e0 : emptyD (d + 1) (.mk k t v names tru asg decl kids els b3 num ex) = false := by simp [emptyD, Nd.kind, k19, k1, k10]
        unfold EmptyPost
        rw [e0]
        clear h1 h2 h3 h4 ih s2 s3 s4 hs e0
        simp only [Nd.kind, Nd.text, Nd.value, Nd.names, Nd.tru, Nd.assign, Nd.decl, Nd.kids, Nd.els, Nd.hasElse, Nd.num, Nd.exact]
        generalize names.length = m1
        generalize decl.length = m2
        generalize kids.length = m3
        generalize els.length = m4
        go_enter Tryz.func9, Tryz.ntmps9
        go_wp2
        go_ret
        exact ⟨rfl, below_new _ _⟩

end Go.Proofs.YtpoedkaggfojgaaGreatDoor
