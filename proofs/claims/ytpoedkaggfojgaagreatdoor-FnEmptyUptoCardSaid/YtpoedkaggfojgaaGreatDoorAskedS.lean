/-
  The walk of spec.Asked.
-/
import Derived.Test.YtpoedkaggfojgaaGreatDoorEmptyS
set_option linter.unusedVariables false
set_option linter.unusedSimpArgs false
namespace Go.Proofs.YtpoedkaggfojgaaGreatDoor
open Go.RowKit

def AscTo (s : ByteArray) (k : Nat) : Prop := ∀ i, (h : i < s.size) → i < k → (s[i]'h).toNat < 128
theorem AscTo.succ {s : ByteArray} {k : Nat} (h : AscTo s k) (hk : k < s.size) (hw : s[k].toNat < 128) : AscTo s (k + 1) := fun i hi hlt => by
  rcases Nat.lt_or_ge i k with h' | h'
  · exact h i hi h'
  · obtain rfl : i = k := by omega
    exact hw
theorem AscTo.all {s : ByteArray} (h : AscTo s s.size) : Ascii s := fun c hc => by
  obtain ⟨i, hi, rfl⟩ := List.getElem_of_mem hc
  have hi' : i < s.size := by simpa using hi
  exact h i hi' hi'

/-- A text's bytes ahead of j. -/
def AscK (n : Nd) (j : Nat) : Prop := n.kind = 1 → AscTo n.text j

def AskedPost (w : World) (n : Nd) (e : Ending) (w' : World) : Prop := ∃ b, e = .returned (.bool b) ∧ (b = true → AskedP n) ∧ Below w.heap.size w w'
theorem AskedPost.no {w w' : World} {n : Nd} (h : Below w.heap.size w w') : AskedPost w n (.returned (.bool false)) w' := ⟨false, rfl, nofun, h⟩

attribute [local go_sem ↓] stS ldS
attribute [local go_sem] run_stS run_ldS_new

set_option maxHeartbeats 1000000 in
set_option maxRecDepth 100000 in
theorem asked_walk (B d : Nat) (k0 : Int) (t v : ByteArray) (names : List ByteArray) (tru asg : Bool) (decl kids els : List Nd) (b3 : Bool) (num : Int) (ex : Bool) (w : World) (A1 A2 A3 A4 : Option Addr) (m1 m2 m4 c1 c2 c3 c4 : Nat)
    (h3 : Row w (· < B) 12 (SN w (· < B) d) (.slice A3 kids.length c3) kids) (s3 : Sms d kids) (z3 : ∀ p ∈ kids, p.text.size ≤ 1048576) (hB : B ≤ w.heap.size) :
    Calls Tryz.prog 6 #[.agg #[.int .i64 k0, .string t, .string v, .slice A1 m1 c1, .bool tru, .bool asg, .slice A2 m2 c2, .slice A3 kids.length c3, .slice A4 m4 c4, .bool b3, .int .i64 num, .bool ex]] w
      (AskedPost w (.mk k0 t v names tru asg decl kids els b3 num ex)) := by
  have H3 := Lib.hid h3
  have y := s3.1
  have Z3 := Lib.hid z3
  clear h3 s3 z3
  generalize hm : kids.length = m at *
  have M := Lib.hid hm
  clear hm
  go_enter Tryz.func6, Tryz.ntmps6
  go_wp2
  go_loopw [9] (fun i wr => ∃ k : Nat, k ≤ m ∧ i = .int .i64 k ∧ Below w.heap.size w wr ∧ Hid (∀ j, (h : j < kids.length) → j < k → AskedK kids[j])) (fun i _ => m - (intOf i).toNat)
  case atStart => exact ⟨0, Nat.zero_le _, rfl, below_new _ _, Lib.hid fun j h hj => absurd hj (by omega)⟩
  case round =>
    obtain ⟨k, hk, rfl, hbl, hall⟩ := hrel
    have BL := Lib.hid hbl
    clear hbl
    by_cases hlt : k < m
    · have hlt' : k < kids.length := by rw [M.out]; exact hlt
      have hr : Row wr (· < B) 12 (SN wr (· < B) d) (.slice A3 m c3) kids := H3.out.mono (fun cs a _ => SN.mono (fun _ h _ => h) (Keeps.of_below BL.out) d cs a) (fun _ h _ => h) (Keeps.of_below BL.out)
      rw [← M.out] at hr
      obtain ⟨p, b', o', B1, e1, B2, e2, B3, e3, B4, e4, hp, rfl, _, _, hsn, _, hld⟩ := SN.ld hr hlt'
      have hz : p.text.size ≤ 1048576 := hp ▸ Z3.out _ (List.getElem_mem _)
      have P := Lib.hid hp
      clear hr hsn hp
      generalize p.names.length = l1 at *
      generalize p.decl.length = l2 at *
      generalize p.kids.length = l3 at *
      generalize p.els.length = l4 at *
      by_cases h20 : p.kind = 20
      · rw [h20] at hld
        go_wp2
        go_ret
        exact .no (BL.out.trans ((below_new _ _).mono BL.out.size))
      by_cases h21 : p.kind = 21
      · rw [h21] at hld
        go_wp2
        go_ret
        exact .no (BL.out.trans ((below_new _ _).mono BL.out.size))
      · go_wp2
        go_loop [24] (fun i => ∃ j : Nat, j ≤ p.text.size ∧ i = .int .i64 j ∧ AscK p j) (fun i => p.text.size - (intOf i).toNat)
        case atStart => exact ⟨0, Nat.zero_le _, rfl, fun _ _ _ h => absurd h (by omega)⟩
        case round =>
          obtain ⟨j, hj, rfl, hto⟩ := hrel
          by_cases hltj : j < p.text.size
          · by_cases h1 : p.kind = 1
            · have hto' := Lib.hid (hto h1)
              have H1 := Lib.hid h1
              rw [h1] at hld
              go_wp2
              all_goals first
                | (go_ret
                   exact .no (BL.out.trans ((below_new _ _).mono BL.out.size)))
                | (go_round
                   case rel =>
                     have hx1 : AscK p (j + 1) := fun _ => hto'.out.succ hltj (by omega)
                     first | exact ⟨j + 1, by omega, by go_num, hx1⟩ | ((repeat apply Exists.intro); exact ⟨⟨j + 1, by omega, by go_num, hx1⟩, rfl, rfl, rfl⟩)
                   case measure => simp [intOf]; omega)
            · go_wp2
              go_round
              case rel => exact ⟨j + 1, by omega, by go_num, fun h => absurd h h1⟩
              case measure => simp [intOf]; omega
          · have hj' : j = p.text.size := by omega
            subst hj'
            go_wp2
            go_roundw
            case rel =>
              have hq : AskedK p := ⟨h20, h21, fun h => (hto h).all⟩
              have hx2 : Hid (∀ j, (h : j < kids.length) → j < k + 1 → AskedK kids[j]) := Lib.hid fun j h hj => by
                rcases Nat.lt_or_ge j k with h' | h'
                · exact hall.out j h h'
                · obtain rfl : j = k := by omega
                  rw [P.out]; exact hq
              have hb2 := BL.out.trans ((below_new wr (.cells #[.int .i64 p.kind, .string p.text, .string p.value, .slice B1 l1 e1, .bool p.tru, .bool p.assign, .slice B2 l2 e2, .slice B3 l3 e3, .slice B4 l4 e4, .bool p.hasElse, .int .i64 p.num, .bool p.exact] 25)).mono BL.out.size)
              first | exact ⟨k + 1, by omega, by go_num, hb2, hx2⟩ | ((repeat apply Exists.intro); exact ⟨⟨k + 1, by omega, by go_num, hb2, hx2⟩, rfl⟩)
            case measure => simp [intOf]; omega
    · have hk' : k = m := by omega
      subst hk'
      go_wp2
      go_ret
      refine ⟨true, rfl, fun _ p hp => ?_, BL.out⟩
      obtain ⟨j, hj, rfl⟩ := List.getElem_of_mem hp
      exact hall.out j hj (by have := M.out; have : kids.length = k := M.out; exact this ▸ hj)

end Go.Proofs.YtpoedkaggfojgaaGreatDoor
