/-
  The walk of bytes.TrimSpace at a text of ASCII.
-/
import Derived.Test.YtpoedkaggfojgaaGreatDoorProg
import Derived.Test.YtpoedkaggfojgaaGreatDoorEmptyD
import Derived.WalkKit
import Derived.WalkSpells
import Derived.WalkLawsBesides
import Derived.Lib.Hide
import Derived.LoopTactic
import Derived.Deep.LoopGhost
set_option linter.unusedVariables false
set_option linter.unusedSimpArgs false
namespace Go.Proofs.YtpoedkaggfojgaaGreatDoor
open Go.RowKit

/-- A byte of a text: its cell, its bound. -/
theorem Bytes.at {w : World} {S : Nat → Prop} {b cap : Nat} {s : ByteArray} (h : ∀ j, (h : j < s.data.toList.length) → w.cell? ⟨b, j, none⟩ = some (.int .u8 (s.data.toList[j].toNat : Int))) (ha : Ascii s) {j : Nat} (hj : j < s.size) :
    ∃ x : Nat, x < 128 ∧ w.cell? ⟨b, j, none⟩ = some (.int .u8 (x : Int)) ∧ (s.data.toList[j]?).map UInt8.toNat = some x := by
  have hj' : j < s.data.toList.length := by simpa using hj
  exact ⟨s.data.toList[j].toNat, ha _ (List.getElem_mem _), h j hj', by simp [hj]⟩

set_option maxHeartbeats 2000000 in
set_option maxRecDepth 100000 in
theorem trim_any (w : World) (S : Nat → Prop) (v : Value) (s : ByteArray) (hb : Bytes w S v s) (ht : Tab w) (ha : Ascii s) (hs : s.size ≤ 1048576) :
    Calls Tryz.prog 24 #[v] w fun e w' => ∃ A n c, e = .returned (.slice A n c) ∧ (n = 0 ↔ wsText s = true) ∧ w = w' := by
  obtain ⟨b, cap, rfl, hcap, _, hl, hc⟩ := hb
  have HC := Lib.hid hc
  have HA := Lib.hid ha
  have HT := Lib.hid ht
  clear hc ha ht
  generalize hm : s.size = m at *
  have M := Lib.hid hm
  clear hm
  go_enter Tryz.func24, Tryz.ntmps24
  go_wp2_with fail
  go_loop [0, 9] (fun v0 i => v0 = .slice (some ⟨b, 0, none⟩) m cap ∧ ∃ k : Nat, k ≤ m ∧ i = .int .i64 k ∧ Hid (∀ j, j < k → ∃ x, (s.data.toList[j]?).map UInt8.toNat = some x ∧ wsN x = true)) (fun _ i => m - (intOf i).toNat)
  case atStart => exact ⟨rfl, 0, Nat.zero_le _, rfl, Lib.hid fun j hj => absurd hj (by omega)⟩
  case round =>
    obtain ⟨rfl, k, hk, rfl, hall⟩ := hrel
    by_cases hlt : k < m
    · obtain ⟨x, hx, q0, hxs⟩ := Bytes.at (S := S) (cap := cap) HC.out HA.out (j := k) (by rw [M.out]; exact hlt)
      have q1 := HT.out x hx
      have XS := Lib.hid hxs
      clear hxs
      by_cases hws : wsN x = true
      · rw [if_pos hws] at q1
        have WS := Lib.hid hws
        clear hws
        go_wp2_with fail
        go_round
        case rel =>
          refine ⟨rfl, k + 1, by omega, by go_num, Lib.hid fun j hj => ?_⟩
          rcases Nat.lt_or_ge j k with h' | h'
          · exact hall.out j h'
          · obtain rfl : j = k := by omega
            exact ⟨x, XS.out, WS.out⟩
        case measure => simp [intOf]; omega
      · rw [if_neg hws] at q1
        have WS := Lib.hid hws
        clear hws
        go_wp2_with fail
        go_loop [5] (fun v5 => ∃ q : Nat, q < m - k ∧ v5 = .int .i64 q) (fun v5 => (intOf v5).toNat)
        case atStart =>
          exact ⟨m - k - 1, by omega, by go_num⟩
        case round =>
          obtain ⟨q, hq, rfl⟩ := hrel
          obtain ⟨y, hy, r0, hys⟩ := Bytes.at (S := S) (cap := cap) HC.out HA.out (j := k + q) (by rw [M.out]; omega)
          have r1 := HT.out y hy
          have YS := Lib.hid hys
          clear hys
          by_cases hwy : wsN y = true
          · rw [if_pos hwy] at r1
            have h0 : 0 < q := by
              rcases Nat.eq_zero_or_pos q with h | h
              · subst h
                have e := XS.out.symm.trans YS.out
                injection e with e
                exact absurd (e ▸ hwy) WS.out
              · exact h
            have WY := Lib.hid hwy
            clear hwy
            go_wp2_with fail
            go_roundw
            case rel => first | exact ⟨q - 1, by omega, by go_num⟩ | ((repeat apply Exists.intro); exact ⟨⟨q - 1, by omega, by go_num⟩, rfl⟩)
            case measure => simp [intOf]; omega
          · rw [if_neg hwy] at r1
            have WY := Lib.hid hwy
            clear hwy
            go_wp2_with fail
            go_ret
            exact ⟨_, _, ⟨_, rfl⟩, ⟨fun h => absurd h (by omega), fun h => absurd h (wsText_not XS.out WS.out)⟩, rfl⟩
    · have hk' : k = m := by omega
      go_wp2
      go_ret
      refine ⟨none, 0, ⟨0, rfl⟩, ⟨fun _ => wsText_of fun j hj => hall.out j (by have := M.out; omega), fun _ => rfl⟩, rfl⟩

end Go.Proofs.YtpoedkaggfojgaaGreatDoor
