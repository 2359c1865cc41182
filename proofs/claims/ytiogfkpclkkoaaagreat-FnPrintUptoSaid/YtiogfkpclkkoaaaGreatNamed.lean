/-
  The walks of spec.simple and spec.Named. Printed by py/named.py.
-/
import Derived.Test.YtiogfkpclkkoaaaGreatS1
import Derived.Test.YtiogfkpclkkoaaaGreatFactsN
import Derived.LoopTactic
import Derived.Deep.LoopGhost
import Derived.Deep.DeepCutAuto
import Derived.BigGuardPart
set_option linter.unusedVariables false
set_option linter.unusedSimpArgs false
namespace Go.Proofs.YtiogfkpclkkoaaaGreat
open Go.RowKit

set_option maxHeartbeats 1000000 in
theorem simple_any (s : ByteArray) (w : World) (hs : s.size ≤ 1048576) : Calls Tryz.prog 15 #[.string s] w (SimplePost w s) := by
  go_enter Tryz.func15, Tryz.ntmps15
  go_wp2
  go_loop [6] (fun i => ∃ k : Nat, k ≤ s.size ∧ i = .int .i64 k ∧ SimpleTo s k) (fun i => s.size - (intOf i).toNat)
  case atStart => exact ⟨0, Nat.zero_le _, rfl, fun _ _ h => absurd h (by omega)⟩
  case round =>
    obtain ⟨k, hk, rfl, hto⟩ := hrel
    have TO := Lib.hid hto
    clear hto
    by_cases hlt : k < s.size
    · go_wp2
      all_goals first
        | (go_ret; exact ⟨false, rfl, nofun, rfl⟩)
        | (go_round
           case rel => exact ⟨k + 1, by omega, by go_num, TO.out.succ hlt ⟨by omega, by omega, by omega, by have h := ‹((s[k].toNat : Int) == 92) = false›; simp at h; omega⟩⟩
           case measure => simp [intOf]; omega)
    · have he : k = s.size := by omega
      subst he
      go_wp2
      go_ret
      exact ⟨true, rfl, fun _ i hi => TO.out i hi hi, rfl⟩

set_option maxHeartbeats 4000000 in
set_option maxRecDepth 100000 in
theorem named_tpl (d : Nat) (ih : ∀ cs n S w, SN w S d cs n → Sm d n → Calls Tryz.prog 6 #[.agg cs.toArray] w (NamedPost w d n))
    (t v : ByteArray) (names : List ByteArray) (tru asg : Bool) (decl kids els : List Nd) (b3 : Bool) (num : Int) (ex : Bool) (S : Nat → Prop) (w : World) (A1 A2 A3 A4 : Option Addr) (m1 m2 c1 c2 c3 c4 : Nat)
    (h3 : Row w S 12 (SN w S d) (.slice A3 kids.length c3) kids) (s3 : Sms d kids) (h4 : Row w S 12 (SN w S d) (.slice A4 els.length c4) els) (s4 : Sms d els) (ht : t.size ≤ 1048576) :
    Calls Tryz.prog 6 #[.agg #[.int .i64 16, .string t, .string v, .slice A1 m1 c1, .bool tru, .bool asg, .slice A2 m2 c2, .slice A3 kids.length c3, .slice A4 els.length c4, .bool b3, .int .i64 num, .bool ex]] w
      (NamedPost w (d + 1) (.mk 16 t v names tru asg decl kids els b3 num ex)) := by
  have IH := Lib.hid ih
  have H3 := Lib.hid h3
  have y3 := s3.1
  have S3 := Lib.hid s3
  have H4 := Lib.hid h4
  have y4 := s4.1
  have S4 := Lib.hid s4
  clear ih h3 s3 h4 s4
  generalize hm3 : kids.length = m3 at y3
  generalize hm4 : els.length = m4 at y4
  have M3 := Lib.hid hm3
  have M4 := Lib.hid hm4
  clear hm3 hm4
  go_enter Tryz.func6, Tryz.ntmps6
  go_upto_region 3 with (go_at_call 15; refine (simple_any _ _ ht).mono ?_; rintro e w1 ⟨b, rfl, hsi, rfl⟩; replace hsi := Lib.hid hsi)
  · go_ret
    exact .no (below_new _ _)
  obtain rfl : b = true := by simpa using ‹(!b) = false›
  clear ‹(!true) = false›
  have SI := Lib.hid (hsi.out rfl)
  clear hsi
  simp only [Bool.not_true]
  go_wp2_with fail
  obtain ⟨g, hg⟩ : ∃ g, g = w.heap.size + 1 := ⟨_, rfl⟩
  have G := Lib.hid hg
  rw [← hg]
  clear hg
  go_loopw [22] (fun i wr => ∃ q : Nat, q ≤ 2 ∧ i = .int .i64 q ∧ Boxed w wr #[.int .i64 16, .string t, .string v, .slice A1 m1 c1, .bool tru, .bool asg, .slice A2 m2 c2, .slice A3 m3 c3, .slice A4 m4 c4, .bool b3, .int .i64 num, .bool ex] 25 ∧ wr.heap[g]? = some (.cells #[.slice A3 m3 c3, .slice A4 m4 c4] 23 (0, 0)) ∧ (1 ≤ q → ∀ p ∈ kids, Nmd d p) ∧ (2 ≤ q → ∀ p ∈ els, Nmd d p)) (fun i _ => 2 - (intOf i).toNat)
  case atStart => exact ⟨0, by omega, rfl, Boxed.of (Below.alloc (Below.refl _ _) (by simp) _), by rw [G.out]; exact heap_alloc2 _ _ _, fun h => absurd h (by omega), fun h => absurd h (by omega)⟩
  case round =>
    obtain ⟨q, hq, rfl, hbx, hrow, hallk, halle⟩ := hrel
    have HBX := Lib.hid hbx
    have HROW := Lib.hid hrow
    have c0 : wr.cell? ⟨g, 0, none⟩ = some (.slice A3 m3 c3) := by simp [World.cell?, hrow]
    have c1' : wr.cell? ⟨g, 1, none⟩ = some (.slice A4 m4 c4) := by simp [World.cell?, hrow]
    have HALLk := Lib.hid hallk
    have HALLe := Lib.hid halle
    clear hbx hrow hallk halle
    obtain ⟨wo, rfl⟩ : ∃ wo : World, wo = wr := ⟨_, rfl⟩
    by_cases e0 : q = 0
    · subst e0
      go_wp2_with fail
      go_loopw [28] (fun i wy => ∃ j : Nat, j ≤ m3 ∧ i = .int .i64 j ∧ Below wo.heap.size wo wy ∧ FstK (Nmd d) j kids) (fun i _ => m3 - (intOf i).toNat)
      case atStart => exact ⟨0, by omega, rfl, Below.refl _ _, .zero _ _⟩
      case round =>
        obtain ⟨j, hj, rfl, hbl, hfst⟩ := hrel
        have BL := Lib.hid hbl
        have FST := Lib.hid hfst
        clear hbl hfst
        by_cases hlt : j < m3
        · have hlt' : j < kids.length := by rw [M3.out]; exact hlt
          have hw : Below w.heap.size w wr := HBX.out.1.trans (BL.out.mono HBX.out.1.size)
          have hrow3 : Row wr S 12 (SN wr S d) (.slice A3 kids.length c3) kids := H3.out.mono (fun cs a _ => SN.mono (fun _ h _ => h) (Keeps.of_below hw) d cs a) (fun _ h _ => h) (Keeps.of_below hw)
          obtain ⟨p, b', o', B1, e1, B2, e2, B3, e3, B4, e4, hp, rfl, _, _, hsn, f0, f1, f2, f3, f4, f5, f6, f7, f8, f9, f10, f11⟩ := SN.at hrow3 hlt'
          have hsm : Sm d kids[j] := S3.out.2 _ (List.getElem_mem _)
          rw [hp] at hsm
          have P := Lib.hid hp
          have SNj := Lib.hid hsn
          have SMj := Lib.hid hsm
          have HW := Lib.hid hw
          clear hrow3 hsn hsm hw hp
          generalize p.names.length = l1 at *
          generalize p.decl.length = l2 at *
          generalize p.kids.length = l3 at *
          generalize p.els.length = l4 at *
          go_wp2_with (go_at_call 6; refine (IH.out [_, _, _, _, _, _, _, _, _, _, _, _] p S _ (SN.mono (fun _ h _ => h) (Keeps.of_below ((Below.refl _ _).alloc (Nat.le_refl _) _)) _ _ _ SNj.out) SMj.out).mono ?_; rintro e w2 ⟨b2, rfl, hs2, hb2⟩)
          · go_ret
            exact .no (below_trans (below_trans HW.out (below_new _ _)) hb2)
          · have hb : b2 = true := by simpa using ‹(!b2) = false›
            have hp := P.out
            have hsj : Nmd d kids[j] := by rw [hp]; exact hs2 hb
            go_roundw
            case rel => first | exact ⟨j + 1, by omega, by go_num, below_trans BL.out (below_alloc hb2), FST.out.succ hlt' hsj⟩ | ((repeat apply Exists.intro); exact ⟨⟨j + 1, by omega, by go_num, below_trans BL.out (below_alloc hb2), FST.out.succ hlt' hsj⟩, rfl⟩)
            case measure => simp [intOf]; omega
        · have hj' : j = m3 := by omega
          subst hj'
          have hq : ∀ p ∈ kids, Nmd d p := FST.out.all (by rw [M3.out]; exact Nat.le_refl _)
          have HQ := Lib.hid hq
          clear hq
          go_wp2
          go_roundw
          case rel => exact ⟨1, by omega, rfl, HBX.out.below BL.out, (BL.out.block g (lt_of_block HROW.out)).trans HROW.out, fun _ => HQ.out, fun h => absurd h (by omega)⟩
          case measure => simp [intOf]
    by_cases e1 : q = 1
    · subst e1
      go_wp2_with fail
      go_loopw [28] (fun i wy => ∃ j : Nat, j ≤ m4 ∧ i = .int .i64 j ∧ Below wo.heap.size wo wy ∧ FstK (Nmd d) j els) (fun i _ => m4 - (intOf i).toNat)
      case atStart => exact ⟨0, by omega, rfl, Below.refl _ _, .zero _ _⟩
      case round =>
        obtain ⟨j, hj, rfl, hbl, hfst⟩ := hrel
        have BL := Lib.hid hbl
        have FST := Lib.hid hfst
        clear hbl hfst
        by_cases hlt : j < m4
        · have hlt' : j < els.length := by rw [M4.out]; exact hlt
          have hw : Below w.heap.size w wr := HBX.out.1.trans (BL.out.mono HBX.out.1.size)
          have hrow3 : Row wr S 12 (SN wr S d) (.slice A4 els.length c4) els := H4.out.mono (fun cs a _ => SN.mono (fun _ h _ => h) (Keeps.of_below hw) d cs a) (fun _ h _ => h) (Keeps.of_below hw)
          obtain ⟨p, b', o', B1, e1, B2, e2, B3, e3, B4, e4, hp, rfl, _, _, hsn, f0, f1, f2, f3, f4, f5, f6, f7, f8, f9, f10, f11⟩ := SN.at hrow3 hlt'
          have hsm : Sm d els[j] := S4.out.2 _ (List.getElem_mem _)
          rw [hp] at hsm
          have P := Lib.hid hp
          have SNj := Lib.hid hsn
          have SMj := Lib.hid hsm
          have HW := Lib.hid hw
          clear hrow3 hsn hsm hw hp
          generalize p.names.length = l1 at *
          generalize p.decl.length = l2 at *
          generalize p.kids.length = l3 at *
          generalize p.els.length = l4 at *
          go_wp2_with (go_at_call 6; refine (IH.out [_, _, _, _, _, _, _, _, _, _, _, _] p S _ (SN.mono (fun _ h _ => h) (Keeps.of_below ((Below.refl _ _).alloc (Nat.le_refl _) _)) _ _ _ SNj.out) SMj.out).mono ?_; rintro e w2 ⟨b2, rfl, hs2, hb2⟩)
          · go_ret
            exact .no (below_trans (below_trans HW.out (below_new _ _)) hb2)
          · have hb : b2 = true := by simpa using ‹(!b2) = false›
            have hp := P.out
            have hsj : Nmd d els[j] := by rw [hp]; exact hs2 hb
            go_roundw
            case rel => first | exact ⟨j + 1, by omega, by go_num, below_trans BL.out (below_alloc hb2), FST.out.succ hlt' hsj⟩ | ((repeat apply Exists.intro); exact ⟨⟨j + 1, by omega, by go_num, below_trans BL.out (below_alloc hb2), FST.out.succ hlt' hsj⟩, rfl⟩)
            case measure => simp [intOf]; omega
        · have hj' : j = m4 := by omega
          subst hj'
          have hq : ∀ p ∈ els, Nmd d p := FST.out.all (by rw [M4.out]; exact Nat.le_refl _)
          have HQ := Lib.hid hq
          clear hq
          go_wp2
          go_roundw
          case rel => exact ⟨2, by omega, rfl, HBX.out.below BL.out, (BL.out.block g (lt_of_block HROW.out)).trans HROW.out, fun _ => HALLk.out (by omega), fun _ => HQ.out⟩
          case measure => simp [intOf]
    have e2 : q = 2 := by omega
    subst e2
    clear e0 e1 c0 c1'
    have ALLk := Lib.hid (HALLk.out (by omega))
    have ALLe := Lib.hid (HALLe.out (by omega))
    have HW := Lib.hid HBX.out.1
    clear HALLk HALLe HROW HBX hq
    go_wp2
    go_ret
    exact ⟨true, rfl, fun _ => ⟨fun _ => SI.out, ALLk.out, ALLe.out⟩, HW.out⟩

set_option maxHeartbeats 4000000 in
set_option maxRecDepth 100000 in
theorem named_else (d : Nat) (ih : ∀ cs n S w, SN w S d cs n → Sm d n → Calls Tryz.prog 6 #[.agg cs.toArray] w (NamedPost w d n))
    (k : Int) (hk : ¬ k = 16) (t v : ByteArray) (names : List ByteArray) (tru asg : Bool) (decl kids els : List Nd) (b3 : Bool) (num : Int) (ex : Bool) (S : Nat → Prop) (w : World) (A1 A2 A3 A4 : Option Addr) (m1 m2 c1 c2 c3 c4 : Nat)
    (h3 : Row w S 12 (SN w S d) (.slice A3 kids.length c3) kids) (s3 : Sms d kids) (h4 : Row w S 12 (SN w S d) (.slice A4 els.length c4) els) (s4 : Sms d els) (ht : t.size ≤ 1048576) :
    Calls Tryz.prog 6 #[.agg #[.int .i64 k, .string t, .string v, .slice A1 m1 c1, .bool tru, .bool asg, .slice A2 m2 c2, .slice A3 kids.length c3, .slice A4 els.length c4, .bool b3, .int .i64 num, .bool ex]] w
      (NamedPost w (d + 1) (.mk k t v names tru asg decl kids els b3 num ex)) := by
  have IH := Lib.hid ih
  have H3 := Lib.hid h3
  have y3 := s3.1
  have S3 := Lib.hid s3
  have H4 := Lib.hid h4
  have y4 := s4.1
  have S4 := Lib.hid s4
  clear ih h3 s3 h4 s4
  generalize hm3 : kids.length = m3 at y3
  generalize hm4 : els.length = m4 at y4
  have M3 := Lib.hid hm3
  have M4 := Lib.hid hm4
  clear hm3 hm4
  have NK := Lib.hid hk
  have hk' : (k == 16) = false := by simpa using hk
  clear hk
  go_enter Tryz.func6, Tryz.ntmps6
  go_upto_region 3 with fail
  go_wp2_with fail
  obtain ⟨g, hg⟩ : ∃ g, g = w.heap.size + 1 := ⟨_, rfl⟩
  have G := Lib.hid hg
  rw [← hg]
  clear hg
  go_loopw [22] (fun i wr => ∃ q : Nat, q ≤ 2 ∧ i = .int .i64 q ∧ Boxed w wr #[.int .i64 k, .string t, .string v, .slice A1 m1 c1, .bool tru, .bool asg, .slice A2 m2 c2, .slice A3 m3 c3, .slice A4 m4 c4, .bool b3, .int .i64 num, .bool ex] 25 ∧ wr.heap[g]? = some (.cells #[.slice A3 m3 c3, .slice A4 m4 c4] 23 (0, 0)) ∧ (1 ≤ q → ∀ p ∈ kids, Nmd d p) ∧ (2 ≤ q → ∀ p ∈ els, Nmd d p)) (fun i _ => 2 - (intOf i).toNat)
  case atStart => exact ⟨0, by omega, rfl, Boxed.of (Below.alloc (Below.refl _ _) (by simp) _), by rw [G.out]; exact heap_alloc2 _ _ _, fun h => absurd h (by omega), fun h => absurd h (by omega)⟩
  case round =>
    obtain ⟨q, hq, rfl, hbx, hrow, hallk, halle⟩ := hrel
    have HBX := Lib.hid hbx
    have HROW := Lib.hid hrow
    have c0 : wr.cell? ⟨g, 0, none⟩ = some (.slice A3 m3 c3) := by simp [World.cell?, hrow]
    have c1' : wr.cell? ⟨g, 1, none⟩ = some (.slice A4 m4 c4) := by simp [World.cell?, hrow]
    have HALLk := Lib.hid hallk
    have HALLe := Lib.hid halle
    clear hbx hrow hallk halle
    obtain ⟨wo, rfl⟩ : ∃ wo : World, wo = wr := ⟨_, rfl⟩
    by_cases e0 : q = 0
    · subst e0
      go_wp2_with fail
      go_loopw [28] (fun i wy => ∃ j : Nat, j ≤ m3 ∧ i = .int .i64 j ∧ Below wo.heap.size wo wy ∧ FstK (Nmd d) j kids) (fun i _ => m3 - (intOf i).toNat)
      case atStart => exact ⟨0, by omega, rfl, Below.refl _ _, .zero _ _⟩
      case round =>
        obtain ⟨j, hj, rfl, hbl, hfst⟩ := hrel
        have BL := Lib.hid hbl
        have FST := Lib.hid hfst
        clear hbl hfst
        by_cases hlt : j < m3
        · have hlt' : j < kids.length := by rw [M3.out]; exact hlt
          have hw : Below w.heap.size w wr := HBX.out.1.trans (BL.out.mono HBX.out.1.size)
          have hrow3 : Row wr S 12 (SN wr S d) (.slice A3 kids.length c3) kids := H3.out.mono (fun cs a _ => SN.mono (fun _ h _ => h) (Keeps.of_below hw) d cs a) (fun _ h _ => h) (Keeps.of_below hw)
          obtain ⟨p, b', o', B1, e1, B2, e2, B3, e3, B4, e4, hp, rfl, _, _, hsn, f0, f1, f2, f3, f4, f5, f6, f7, f8, f9, f10, f11⟩ := SN.at hrow3 hlt'
          have hsm : Sm d kids[j] := S3.out.2 _ (List.getElem_mem _)
          rw [hp] at hsm
          have P := Lib.hid hp
          have SNj := Lib.hid hsn
          have SMj := Lib.hid hsm
          have HW := Lib.hid hw
          clear hrow3 hsn hsm hw hp
          generalize p.names.length = l1 at *
          generalize p.decl.length = l2 at *
          generalize p.kids.length = l3 at *
          generalize p.els.length = l4 at *
          go_wp2_with (go_at_call 6; refine (IH.out [_, _, _, _, _, _, _, _, _, _, _, _] p S _ (SN.mono (fun _ h _ => h) (Keeps.of_below ((Below.refl _ _).alloc (Nat.le_refl _) _)) _ _ _ SNj.out) SMj.out).mono ?_; rintro e w2 ⟨b2, rfl, hs2, hb2⟩)
          · go_ret
            exact .no (below_trans (below_trans HW.out (below_new _ _)) hb2)
          · have hb : b2 = true := by simpa using ‹(!b2) = false›
            have hp := P.out
            have hsj : Nmd d kids[j] := by rw [hp]; exact hs2 hb
            go_roundw
            case rel => first | exact ⟨j + 1, by omega, by go_num, below_trans BL.out (below_alloc hb2), FST.out.succ hlt' hsj⟩ | ((repeat apply Exists.intro); exact ⟨⟨j + 1, by omega, by go_num, below_trans BL.out (below_alloc hb2), FST.out.succ hlt' hsj⟩, rfl⟩)
            case measure => simp [intOf]; omega
        · have hj' : j = m3 := by omega
          subst hj'
          have hq : ∀ p ∈ kids, Nmd d p := FST.out.all (by rw [M3.out]; exact Nat.le_refl _)
          have HQ := Lib.hid hq
          clear hq
          go_wp2
          go_roundw
          case rel => exact ⟨1, by omega, rfl, HBX.out.below BL.out, (BL.out.block g (lt_of_block HROW.out)).trans HROW.out, fun _ => HQ.out, fun h => absurd h (by omega)⟩
          case measure => simp [intOf]
    by_cases e1 : q = 1
    · subst e1
      go_wp2_with fail
      go_loopw [28] (fun i wy => ∃ j : Nat, j ≤ m4 ∧ i = .int .i64 j ∧ Below wo.heap.size wo wy ∧ FstK (Nmd d) j els) (fun i _ => m4 - (intOf i).toNat)
      case atStart => exact ⟨0, by omega, rfl, Below.refl _ _, .zero _ _⟩
      case round =>
        obtain ⟨j, hj, rfl, hbl, hfst⟩ := hrel
        have BL := Lib.hid hbl
        have FST := Lib.hid hfst
        clear hbl hfst
        by_cases hlt : j < m4
        · have hlt' : j < els.length := by rw [M4.out]; exact hlt
          have hw : Below w.heap.size w wr := HBX.out.1.trans (BL.out.mono HBX.out.1.size)
          have hrow3 : Row wr S 12 (SN wr S d) (.slice A4 els.length c4) els := H4.out.mono (fun cs a _ => SN.mono (fun _ h _ => h) (Keeps.of_below hw) d cs a) (fun _ h _ => h) (Keeps.of_below hw)
          obtain ⟨p, b', o', B1, e1, B2, e2, B3, e3, B4, e4, hp, rfl, _, _, hsn, f0, f1, f2, f3, f4, f5, f6, f7, f8, f9, f10, f11⟩ := SN.at hrow3 hlt'
          have hsm : Sm d els[j] := S4.out.2 _ (List.getElem_mem _)
          rw [hp] at hsm
          have P := Lib.hid hp
          have SNj := Lib.hid hsn
          have SMj := Lib.hid hsm
          have HW := Lib.hid hw
          clear hrow3 hsn hsm hw hp
          generalize p.names.length = l1 at *
          generalize p.decl.length = l2 at *
          generalize p.kids.length = l3 at *
          generalize p.els.length = l4 at *
          go_wp2_with (go_at_call 6; refine (IH.out [_, _, _, _, _, _, _, _, _, _, _, _] p S _ (SN.mono (fun _ h _ => h) (Keeps.of_below ((Below.refl _ _).alloc (Nat.le_refl _) _)) _ _ _ SNj.out) SMj.out).mono ?_; rintro e w2 ⟨b2, rfl, hs2, hb2⟩)
          · go_ret
            exact .no (below_trans (below_trans HW.out (below_new _ _)) hb2)
          · have hb : b2 = true := by simpa using ‹(!b2) = false›
            have hp := P.out
            have hsj : Nmd d els[j] := by rw [hp]; exact hs2 hb
            go_roundw
            case rel => first | exact ⟨j + 1, by omega, by go_num, below_trans BL.out (below_alloc hb2), FST.out.succ hlt' hsj⟩ | ((repeat apply Exists.intro); exact ⟨⟨j + 1, by omega, by go_num, below_trans BL.out (below_alloc hb2), FST.out.succ hlt' hsj⟩, rfl⟩)
            case measure => simp [intOf]; omega
        · have hj' : j = m4 := by omega
          subst hj'
          have hq : ∀ p ∈ els, Nmd d p := FST.out.all (by rw [M4.out]; exact Nat.le_refl _)
          have HQ := Lib.hid hq
          clear hq
          go_wp2
          go_roundw
          case rel => exact ⟨2, by omega, rfl, HBX.out.below BL.out, (BL.out.block g (lt_of_block HROW.out)).trans HROW.out, fun _ => HALLk.out (by omega), fun _ => HQ.out⟩
          case measure => simp [intOf]
    have e2 : q = 2 := by omega
    subst e2
    clear e0 e1 c0 c1'
    have ALLk := Lib.hid (HALLk.out (by omega))
    have ALLe := Lib.hid (HALLe.out (by omega))
    have HW := Lib.hid HBX.out.1
    clear HALLk HALLe HROW HBX hq
    go_wp2
    go_ret
    exact ⟨true, rfl, fun _ => ⟨fun h => absurd h NK.out, ALLk.out, ALLe.out⟩, HW.out⟩

/-- spec.Named at every node. -/
theorem named_any : ∀ (d : Nat) cs n S w, SN w S d cs n → Sm d n → Calls Tryz.prog 6 #[.agg cs.toArray] w (NamedPost w d n)
  | 0, _, _, _, _, h, _ => h.elim
  | d + 1, cs, n, S, w, h, hs => by
    have ih := named_any d
    obtain ⟨s2, s3, s4, hm1⟩ := hs.parts h
    have ht : n.text.size ≤ 1048576 := by simp only [Sm, wt] at hs; omega
    obtain ⟨nv, dv, kv, ev, rfl, h1, h2, h3, h4⟩ := h
    obtain ⟨A1, c1, rfl⟩ := h1.form
    obtain ⟨A2, c2, rfl⟩ := h2.form
    obtain ⟨A3, c3, rfl⟩ := h3.form
    obtain ⟨A4, c4, rfl⟩ := h4.form
    cases n with
    | mk k t v names tru asg decl kids els b3 num ex =>
    simp only [Nd.kind, Nd.text, Nd.value, Nd.names, Nd.tru, Nd.assign, Nd.decl, Nd.kids, Nd.els, Nd.hasElse, Nd.num, Nd.exact] at *
    show Calls _ _ #[.agg #[_, _, _, _, _, _, _, _, _, _, _, _]] _ _
    by_cases hk : k = 16
    · subst hk
      exact named_tpl d ih t v names tru asg decl kids els b3 num ex S w A1 A2 A3 A4 _ _ c1 c2 c3 c4 h3 s3 h4 s4 ht
    · exact named_else d ih k hk t v names tru asg decl kids els b3 num ex S w A1 A2 A3 A4 _ _ c1 c2 c3 c4 h3 s3 h4 s4 ht

end Go.Proofs.YtiogfkpclkkoaaaGreat
