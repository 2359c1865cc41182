/-
  The walk of parse.IsEmptyTree at a list whose kids the law asks of.
-/
import Derived.Test.YtpoedkaggfojgaaGreatDoorTrimS
import Derived.Test.YtpoedkaggfojgaaGreatDoorAsserts
import Derived.Test.YtpoedkaggfojgaaGreatDoorBuiltJ
set_option linter.unusedVariables false
set_option linter.unusedSimpArgs false
namespace Go.Proofs.YtpoedkaggfojgaaGreatDoor
open Go.RowKit

/-- A kid of a list is empty. -/
def emptyK (n : Nd) : Bool := if n.kind = 19 then true else if n.kind = 1 then wsText n.text else false

theorem PBody.text_of {w : World} {S : Nat → Prop} {trv : Value} {sub : Nat → Nd → Prop} {n : Nd} {E : TypeId} {cs : Array Value} (h : PBody w S trv sub n E cs) (hk : n.kind = 1) :
    ∃ bv, Bytes w S bv n.text ∧ E = 50 ∧ cs = #[.int .i64 0, .int .i64 0, trv, bv] := by
  cases h with
  | text h hb => exact ⟨_, hb, rfl, rfl⟩
  | branch0 h => rcases h with ⟨h, _⟩ | ⟨h, _⟩ | ⟨h, _⟩ <;> (rw [hk] at h; exact absurd h (by decide))
  | branch1 h => rcases h with ⟨h, _⟩ | ⟨h, _⟩ | ⟨h, _⟩ <;> (rw [hk] at h; exact absurd h (by decide))
  | _ h => (rw [hk] at h; exact absurd h (by decide))
theorem PBody.list_of {w : World} {S : Nat → Prop} {trv : Value} {sub : Nat → Nd → Prop} {n : Nd} {E : TypeId} {cs : Array Value} (h : PBody w S trv sub n E cs) (hk : n.kind = 10) :
    ∃ kv, RowP w S 39 ifc sub kv n.kids ∧ E = 118 ∧ cs = #[.int .i64 11, .int .i64 0, trv, kv] := by
  cases h with
  | list h rk => exact ⟨_, rk, rfl, rfl⟩
  | branch0 h => rcases h with ⟨h, _⟩ | ⟨h, _⟩ | ⟨h, _⟩ <;> (rw [hk] at h; exact absurd h (by decide))
  | branch1 h => rcases h with ⟨h, _⟩ | ⟨h, _⟩ | ⟨h, _⟩ <;> (rw [hk] at h; exact absurd h (by decide))
  | _ h => (rw [hk] at h; exact absurd h (by decide))

theorem RowP.form' {w : World} {S : Nat → Prop} {E : TypeId} {f : Nd → Nat → Value} {sub : Nat → Nd → Prop} {v : Value} {l : List Nd} (h : RowP w S E f sub v l) : ∃ A c, v = .slice A l.length c := by
  rcases h with ⟨rfl, rfl⟩ | ⟨g, cap, cur, rfl, _⟩
  · exact ⟨_, _, rfl⟩
  · exact ⟨_, _, rfl⟩
theorem RowP.at {w : World} {S : Nat → Prop} {E : TypeId} {f : Nd → Nat → Value} {sub : Nat → Nd → Prop} {A : Option Addr} {c : Nat} {l : List Nd} (h : RowP w S E f sub (.slice A l.length c) l) {k : Nat} (hk : k < l.length) :
    ∃ g b p, l[k] = p ∧ A = some ⟨g, 0, none⟩ ∧ w.cell? ⟨g, k, none⟩ = some (f p b) ∧ sub b p := by
  rcases h with ⟨_, h0⟩ | ⟨g, cap, cur, e, _, hh, hc⟩
  · subst h0; simp at hk
  · injection e with e1 e2 e3
    obtain ⟨b, h1, h2⟩ := hc k hk
    exact ⟨g, b, l[k], rfl, e1, by rw [cell_of_heap' hh]; exact h1, h2⟩

attribute [local go_sem] ta_ActionNode ta_CommentNode ta_IfNode ta_ListNode ta_RangeNode ta_TemplateNode ta_TextNode ta_WithNode

theorem elementK_cases {k : Int} (h : elementK k = true) : k = 1 ∨ k = 19 ∨ k = 2 ∨ k = 16 ∨ k = 20 ∨ k = 21 ∨ k = 9 ∨ k = 14 ∨ k = 18 := by
  simp only [elementK, Bool.or_eq_true, beq_iff_eq] at h
  omega

set_option maxHeartbeats 1000000 in
theorem isEmpty_kid {base d b : Nat} {S : Nat → Prop} {tr : Value → Prop} {n : Nd} {w : World} (h : PN w base S tr d b n) (he : elementK n.kind = true) (ha : AskedK n) (hs : n.text.size ≤ 1048576) (ht : Tab w) :
    Calls Tryz.prog 16 #[ifc n b] w fun e w' => e = .returned (.bool (emptyK n)) ∧ w = w' := by
  obtain ⟨a1, a2, a3⟩ := ha
  unfold emptyK ifc
  rcases elementK_cases he with hk | hk | hk | hk | hk | hk | hk | hk | hk
  · cases d with
    | zero => exact h.elim
    | succ d =>
      obtain ⟨h1, h2, trv, E, cs, _, hh, hbody⟩ := h
      obtain ⟨bv, hb, rfl, rfl⟩ := hbody.text_of hk
      have g1 : w.cell? ⟨b, 3, none⟩ = some bv := cell_of_heap' hh
      have ha := a3 hk
      rw [hk]
      have HB := Lib.hid hb
      have HA := Lib.hid ha
      have HT := Lib.hid ht
      obtain ⟨bb, cap, rfl, _⟩ := hb
      clear a1 a2 a3 he hbody hh ht ha hk
      rw [show ptrT 1 = 44 from rfl]
      generalize hm : n.text = s at *
      go_enter Tryz.func16, Tryz.ntmps16
      go_wp2_with (go_at_call 24; refine Calls.mono (trim_any w S _ s HB.out HT.out HA.out hs) ?_; rintro e w' ⟨A, l, c, rfl, hl, rfl⟩; have HL := Lib.hid hl; clear hl)
      go_ret
      have hl := HL.out
      refine ⟨?_, rfl⟩
      have : ((l : Int) == 0) = wsText s := by
        cases hw : wsText s with
        | true => rw [hw] at hl; have : l = 0 := hl.2 rfl; subst this; rfl
        | false =>
          rw [hw] at hl
          have : l ≠ 0 := fun h => by simpa using hl.1 h
          simp [this]
      rw [← this]
      rfl
  · clear a1 a2 a3 he h ht hs
    rw [hk, show ptrT 19 = 51 from rfl]
    clear hk
    go_enter Tryz.func16, Tryz.ntmps16
    go_wp2
    go_ret
    exact ⟨rfl, rfl⟩
  · clear a1 a2 a3 he h ht hs
    rw [hk, show ptrT 2 = 87 from rfl]
    clear hk
    go_enter Tryz.func16, Tryz.ntmps16
    go_wp2
    go_ret
    exact ⟨rfl, rfl⟩
  · clear a1 a2 a3 he h ht hs
    rw [hk, show ptrT 16 = 90 from rfl]
    clear hk
    go_enter Tryz.func16, Tryz.ntmps16
    go_wp2
    go_ret
    exact ⟨rfl, rfl⟩
  · exact absurd hk a1
  · exact absurd hk a2
  · clear a1 a2 a3 he h ht hs
    rw [hk, show ptrT 9 = 110 from rfl]
    clear hk
    go_enter Tryz.func16, Tryz.ntmps16
    go_wp2
    go_ret
    exact ⟨rfl, rfl⟩
  · clear a1 a2 a3 he h ht hs
    rw [hk, show ptrT 14 = 113 from rfl]
    clear hk
    go_enter Tryz.func16, Tryz.ntmps16
    go_wp2
    go_ret
    exact ⟨rfl, rfl⟩
  · clear a1 a2 a3 he h ht hs
    rw [hk, show ptrT 18 = 115 from rfl]
    clear hk
    go_enter Tryz.func16, Tryz.ntmps16
    go_wp2
    go_ret
    exact ⟨rfl, rfl⟩

set_option maxHeartbeats 1000000 in
set_option maxRecDepth 100000 in
theorem isEmpty_list {base d b : Nat} {S : Nat → Prop} {tr : Value → Prop} {n : Nd} {w : World} (h : PN w base S tr (d + 1) b n) (hk : n.kind = 10) (he : ∀ p ∈ n.kids, elementK p.kind = true) (ha : AskedP n) (hs : Sms d n.kids) (hsz : ∀ p ∈ n.kids, p.text.size ≤ 1048576) (ht : Tab w) :
    Calls Tryz.prog 16 #[ifc n b] w fun e w' => e = .returned (.bool (n.kids.all emptyK)) ∧ w = w' := by
  obtain ⟨h1, h2, trv, E, cs, _, hh, hbody⟩ := h
  obtain ⟨kv, rk, rfl, rfl⟩ := hbody.list_of hk
  obtain ⟨A, c, rfl⟩ := rk.form'
  have g1 : w.cell? ⟨b, 3, none⟩ = some (.slice A n.kids.length c) := cell_of_heap' hh
  have y := hs.1
  unfold ifc
  rw [hk, show ptrT 10 = 100 from rfl]
  have RK := Lib.hid rk
  have HE := Lib.hid he
  have HA := Lib.hid ha
  have HZ := Lib.hid hsz
  have HT := Lib.hid ht
  clear hbody hh rk he ha hs hsz ht hk
  unfold AskedP at HA
  generalize n.kids = kids at *
  generalize hm : kids.length = m at *
  have M := Lib.hid hm
  clear hm
  go_enter Tryz.func16, Tryz.ntmps16
  go_wp2_with fail
  go_loop [38] (fun i => ∃ k : Nat, k ≤ m ∧ i = .int .i64 k ∧ Hid (∀ j, (h : j < kids.length) → j < k → emptyK kids[j] = true)) (fun i => m - (intOf i).toNat)
  case atStart => exact ⟨0, Nat.zero_le _, rfl, Lib.hid fun j h hj => absurd hj (by omega)⟩
  case round =>
    obtain ⟨k, hkm, rfl, hall⟩ := hrel
    by_cases hlt : k < m
    · have hlt' : k < kids.length := by rw [M.out]; exact hlt
      have rk' := RK.out
      rw [← M.out] at rk'
      obtain ⟨g, bq, p, hp, rfl, q0, hpn⟩ := rk'.at hlt'
      have hmem : p ∈ kids := hp ▸ List.getElem_mem hlt'
      have hcall := isEmpty_kid hpn (HE.out p hmem) (HA.out p hmem) (HZ.out p hmem) HT.out
      unfold ifc at q0 hcall
      generalize ptrT p.kind = K at q0 hcall
      have HC := Lib.hid hcall
      have P := Lib.hid hp
      clear hcall hp hpn rk' hmem
      cases hb : emptyK p with
      | true =>
        rw [hb] at HC
        have HB := Lib.hid hb
        clear hb
        go_wp2_with (go_at_call 16; refine Calls.mono HC.out ?_; rintro e w' ⟨rfl, rfl⟩)
        go_roundw
        case rel =>
          refine ⟨k + 1, by omega, by go_num, Lib.hid fun j h hj => ?_⟩
          rcases Nat.lt_or_ge j k with h' | h'
          · exact hall.out j h h'
          · obtain rfl : j = k := by omega
            rw [P.out]; exact HB.out
        case measure => simp [intOf]; omega
      | false =>
        rw [hb] at HC
        have HB := Lib.hid hb
        clear hb
        go_wp2_with (go_at_call 16; refine Calls.mono HC.out ?_; rintro e w' ⟨rfl, rfl⟩)
        go_ret
        refine ⟨?_, rfl⟩
        have : kids.all emptyK = false := by
          rw [List.all_eq_false]
          exact ⟨p, by rw [← P.out]; exact List.getElem_mem _, by rw [HB.out]; simp⟩
        rw [this]
        rfl
    · have hk' : k = m := by omega
      subst hk'
      go_wp2
      go_ret
      refine ⟨?_, rfl⟩
      have : kids.all emptyK = true := by
        rw [List.all_eq_true]
        intro p hp
        obtain ⟨j, hj, rfl⟩ := List.getElem_of_mem hp
        exact hall.out j hj (by have := M.out; omega)
      rw [this]
      rfl

end Go.Proofs.YtpoedkaggfojgaaGreatDoor
