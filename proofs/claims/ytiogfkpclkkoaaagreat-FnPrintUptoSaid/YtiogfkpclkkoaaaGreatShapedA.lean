/-
  The walk of spec.Shaped (no variables and no else): where it returns true the parts of a node fit its kind, at every depth. Printed by py/shaped.py.
-/
import Derived.Test.YtiogfkpclkkoaaaGreatS1
import Derived.Test.YtiogfkpclkkoaaaGreatFacts
import Derived.LoopTactic
import Derived.Deep.LoopGhost
import Derived.Deep.DeepCutAuto
import Derived.BigGuardPart
set_option linter.unusedVariables false
set_option linter.unusedSimpArgs false
namespace Go.Proofs.YtiogfkpclkkoaaaGreat
open Go.RowKit

set_option maxHeartbeats 4000000 in
set_option maxRecDepth 100000 in
/-- No else and no variables: the kind is what it is. -/
theorem shaped_v1 (d : Nat) (ih : ∀ cs n S w, SN w S d cs n → Sm d n → Calls Tryz.prog 5 #[.agg cs.toArray] w (ShapedPost w d n))
    (k : Int) (t v : ByteArray) (names : List ByteArray) (tru asg : Bool) (kids : List Nd) (num : Int) (ex : Bool) (S : Nat → Prop) (w : World) (A1 A2 A3 A4 : Option Addr) (c1 c2 c3 c4 : Nat)
    (h3 : Row w S 12 (SN w S d) (.slice A3 kids.length c3) kids) (s3 : Sms d kids) (hm1 : names.length ≤ 1048576) :
    Calls Tryz.prog 5 #[.agg #[.int .i64 k, .string t, .string v, .slice A1 names.length c1, .bool tru, .bool asg, .slice A2 0 c2, .slice A3 kids.length c3, .slice A4 0 c4, .bool false, .int .i64 num, .bool ex]] w
      (ShapedPost w (d + 1) (.mk k t v names tru asg [] kids [] false num ex)) := by
  have IH := Lib.hid ih
  have H3 := Lib.hid h3
  have y3 := s3.1
  have S3 := Lib.hid s3
  clear ih h3 s3
  generalize hm3 : kids.length = m3 at y3
  generalize hm1' : names.length = m1 at hm1
  have M3 := Lib.hid hm3
  have M1 := Lib.hid hm1'
  clear hm3 hm1'
  go_enter Tryz.func5, Tryz.ntmps5
  go_upto_region 5 with (first
    | (go_at_call 12; refine (neat_any _ _ _ _ _ _ _ _ _ _ _ _ _ _ _ _ _ _ _ _ _).mono ?_; rintro e w1 ⟨b, rfl, hb1⟩; replace hb1 := Boxed.of hb1)
    | (go_at_call 11; refine (branch_any _ _).mono ?_; rintro e w1 ⟨rfl, rfl⟩))
  · go_ret
    exact .no hb1.1
  obtain rfl : b = true := by simpa using ‹(!b) = false›
  clear ‹(!true) = false›
  simp only [Bool.not_true]
  have c6 : w1.cell? ⟨w.heap.size, 6, none⟩ = some (.slice A2 0 c2) := hb1.cell 6
  have c7 : w1.cell? ⟨w.heap.size, 7, none⟩ = some (.slice A3 m3 c3) := hb1.cell 7
  have c8 : w1.cell? ⟨w.heap.size, 8, none⟩ = some (.slice A4 0 c4) := hb1.cell 8
  go_wp2_with fail
  obtain ⟨g, hg⟩ : ∃ g, g = w1.heap.size := ⟨_, rfl⟩
  have G := Lib.hid hg
  rw [← hg]
  clear hg
  go_loopw [60] (fun i wr => ∃ q : Nat, q ≤ 3 ∧ i = .int .i64 q ∧ Boxed w wr #[.int .i64 k, .string t, .string v, .slice A1 m1 c1, .bool tru, .bool asg, .slice A2 0 c2, .slice A3 m3 c3, .slice A4 0 c4, .bool false, .int .i64 num, .bool ex] 25 ∧ wr.heap[g]? = some (.cells #[.slice A2 0 c2, .slice A3 m3 c3, .slice A4 0 c4] 23 (0, 0)) ∧ (2 ≤ q → ∀ p ∈ kids, Shp d p)) (fun i _ => 3 - (intOf i).toNat)
  case atStart => exact ⟨0, by omega, rfl, hb1.below ((Below.refl _ _).alloc (Nat.le_refl _) _), by rw [G.out]; exact heap_alloc_new w1 _, fun h => absurd h (by omega)⟩
  case round =>
    obtain ⟨q, hq, rfl, hbx, hrow, hallk⟩ := hrel
    have HBX := Lib.hid hbx
    have HROW := Lib.hid hrow
    have c0 : wr.cell? ⟨g, 0, none⟩ = some (.slice A2 0 c2) := by simp [World.cell?, hrow]
    have c1' : wr.cell? ⟨g, 1, none⟩ = some (.slice A3 m3 c3) := by simp [World.cell?, hrow]
    have c2' : wr.cell? ⟨g, 2, none⟩ = some (.slice A4 0 c4) := by simp [World.cell?, hrow]
    clear hbx hrow c6 c7 c8
    have HALLk := Lib.hid hallk
    clear hallk
    obtain ⟨wo, rfl⟩ : ∃ wo : World, wo = wr := ⟨_, rfl⟩
    by_cases e0 : q = 0
    · subst e0
      go_wp2_with fail
      go_loopw [66] (fun i wy => i = .int .i64 0 ∧ wy = wo) (fun i _ => 0)
      case atStart => exact ⟨rfl, rfl⟩
      case round =>
        obtain ⟨rfl, rfl⟩ := hrel
        go_wp2
        go_roundw
        case rel => exact ⟨1, by omega, rfl, HBX.out, HROW.out, fun h => absurd h (by omega)⟩
        case measure => simp [intOf]
    by_cases e1 : q = 1
    · subst e1
      go_wp2_with fail
      go_loopw [66] (fun i wy => ∃ j : Nat, j ≤ m3 ∧ i = .int .i64 j ∧ Below wo.heap.size wo wy ∧ FstK (Shp d) j kids) (fun i _ => m3 - (intOf i).toNat)
      case atStart => exact ⟨0, by omega, rfl, Below.refl _ _, .zero _ _⟩
      case round =>
        obtain ⟨j, hj, rfl, hbl, hfst⟩ := hrel
        have BL := Lib.hid hbl
        have FST := Lib.hid hfst
        clear hbl hfst
        by_cases hlt : j < m3
        · have hlt' : j < kids.length := by rw [M3.out]; exact hlt
          have hw : Below w.heap.size w wr := HBX.out.1.trans (BL.out.mono HBX.out.1.size)
          have hrow3 : Row wr S 12 (SN wr S d) (.slice A3 kids.length c3) kids := H3.out.mono (fun cs a _ => SN.mono (fun _ h _ => h) (Keeps.of_below hw) d cs a) (fun _ h _ => h) (Keeps.of_below hw)
          obtain ⟨p, b', o', B1, e1, B2, e2, B3, e3, B4, e4, hp, rfl, _, _, hsn, f0, f1, f2, f3, f4, f5, f6, f7, f8, f9, f10, f11⟩ := SN.at hrow3 hlt'
          have hsm : Sm d kids[j] := S3.out.2 _ (List.getElem_mem _)
          rw [hp] at hsm
          have P := Lib.hid hp
          have SNj := Lib.hid hsn
          have SMj := Lib.hid hsm
          have HW := Lib.hid hw
          clear hrow3 hsn hsm hw hp
          generalize p.names.length = l1 at *
          generalize p.decl.length = l2 at *
          generalize p.kids.length = l3 at *
          generalize p.els.length = l4 at *
          go_wp2_with (go_at_call 5; refine (IH.out [_, _, _, _, _, _, _, _, _, _, _, _] p S _ (SN.mono (fun _ h _ => h) (Keeps.of_below ((Below.refl _ _).alloc (Nat.le_refl _) _)) _ _ _ SNj.out) SMj.out).mono ?_; rintro e w2 ⟨b2, rfl, hs2, hb2⟩)
          · go_ret
            exact .no (below_trans (below_trans HW.out (below_new _ _)) hb2)
          · have hb : b2 = true := by simpa using ‹(!b2) = false›
            have hp := P.out
            have hsj : Shp d kids[j] := by rw [hp]; exact hs2 hb
            go_roundw
            case rel => first | exact ⟨j + 1, by omega, by go_num, below_trans BL.out (below_alloc hb2), FST.out.succ hlt' hsj⟩ | ((repeat apply Exists.intro); exact ⟨⟨j + 1, by omega, by go_num, below_trans BL.out (below_alloc hb2), FST.out.succ hlt' hsj⟩, rfl⟩)
            case measure => simp [intOf]; omega
        · have hj' : j = m3 := by omega
          subst hj'
          have hq : ∀ p ∈ kids, Shp d p := FST.out.all (by rw [M3.out]; exact Nat.le_refl _)
          have HQ := Lib.hid hq
          clear hq
          go_wp2
          go_roundw
          case rel => exact ⟨2, by omega, rfl, HBX.out.below BL.out, (BL.out.block g (lt_of_block HROW.out)).trans HROW.out, fun _ => HQ.out⟩
          case measure => simp [intOf]
    by_cases e2 : q = 2
    · subst e2
      go_wp2_with fail
      go_loopw [66] (fun i wy => i = .int .i64 0 ∧ wy = wo) (fun i _ => 0)
      case atStart => exact ⟨rfl, rfl⟩
      case round =>
        obtain ⟨rfl, rfl⟩ := hrel
        go_wp2
        go_roundw
        case rel => exact ⟨3, by omega, rfl, HBX.out, HROW.out, fun _ => HALLk.out (by omega)⟩
        case measure => simp [intOf]
    have e3 : q = 3 := by omega
    subst e3
    clear e0 e1 e2 c0 c1' c2'
    have ALLk := Lib.hid (HALLk.out (by omega))
    clear HALLk
    have f0 : wo.cell? ⟨w.heap.size, 0, none⟩ = some (.int .i64 k) := HBX.out.cell 0
    have f3 : wo.cell? ⟨w.heap.size, 3, none⟩ = some (.slice A1 m1 c1) := HBX.out.cell 3
    have f6 : wo.cell? ⟨w.heap.size, 6, none⟩ = some (.slice A2 0 c2) := HBX.out.cell 6
    have f7 : wo.cell? ⟨w.heap.size, 7, none⟩ = some (.slice A3 m3 c3) := HBX.out.cell 7
    have f8 : wo.cell? ⟨w.heap.size, 8, none⟩ = some (.slice A4 0 c4) := HBX.out.cell 8
    have f9 : wo.cell? ⟨w.heap.size, 9, none⟩ = some (.bool false) := HBX.out.cell 9
    have HW := Lib.hid HBX.out.1
    clear HROW HBX hq hb1
    by_cases k1 : k = 1
    · subst k1
      go_wp2
      go_ret
      exact .yes (fun hb => ⟨nofun, ALLk.out, nofun, Or.inl ⟨rfl, List.eq_nil_of_length_eq_zero (by show kids.length = 0; rw [M3.out]; simpa using hb), nmK_no (show ¬ (1 : Int) = 7 by decide) (show ¬ (1 : Int) = 4 by decide)⟩⟩) HW.out
    by_cases k19 : k = 19
    · subst k19
      go_wp2
      go_ret
      exact .yes (fun hb => ⟨nofun, ALLk.out, nofun, Or.inl ⟨rfl, List.eq_nil_of_length_eq_zero (by show kids.length = 0; rw [M3.out]; simpa using hb), nmK_no (show ¬ (19 : Int) = 7 by decide) (show ¬ (19 : Int) = 4 by decide)⟩⟩) HW.out
    by_cases k3 : k = 3
    · subst k3
      go_wp2
      go_ret
      exact .yes (fun hb => ⟨nofun, ALLk.out, nofun, Or.inl ⟨rfl, List.eq_nil_of_length_eq_zero (by show kids.length = 0; rw [M3.out]; simpa using hb), nmK_no (show ¬ (3 : Int) = 7 by decide) (show ¬ (3 : Int) = 4 by decide)⟩⟩) HW.out
    by_cases k6 : k = 6
    · subst k6
      go_wp2
      go_ret
      exact .yes (fun hb => ⟨nofun, ALLk.out, nofun, Or.inl ⟨rfl, List.eq_nil_of_length_eq_zero (by show kids.length = 0; rw [M3.out]; simpa using hb), nmK_no (show ¬ (6 : Int) = 7 by decide) (show ¬ (6 : Int) = 4 by decide)⟩⟩) HW.out
    by_cases k8 : k = 8
    · subst k8
      go_wp2
      go_ret
      exact .yes (fun hb => ⟨nofun, ALLk.out, nofun, Or.inl ⟨rfl, List.eq_nil_of_length_eq_zero (by show kids.length = 0; rw [M3.out]; simpa using hb), nmK_no (show ¬ (8 : Int) = 7 by decide) (show ¬ (8 : Int) = 4 by decide)⟩⟩) HW.out
    by_cases k11 : k = 11
    · subst k11
      go_wp2
      go_ret
      exact .yes (fun hb => ⟨nofun, ALLk.out, nofun, Or.inl ⟨rfl, List.eq_nil_of_length_eq_zero (by show kids.length = 0; rw [M3.out]; simpa using hb), nmK_no (show ¬ (11 : Int) = 7 by decide) (show ¬ (11 : Int) = 4 by decide)⟩⟩) HW.out
    by_cases k12 : k = 12
    · subst k12
      go_wp2
      go_ret
      exact .yes (fun hb => ⟨nofun, ALLk.out, nofun, Or.inl ⟨rfl, List.eq_nil_of_length_eq_zero (by show kids.length = 0; rw [M3.out]; simpa using hb), nmK_no (show ¬ (12 : Int) = 7 by decide) (show ¬ (12 : Int) = 4 by decide)⟩⟩) HW.out
    by_cases k15 : k = 15
    · subst k15
      go_wp2
      go_ret
      exact .yes (fun hb => ⟨nofun, ALLk.out, nofun, Or.inl ⟨rfl, List.eq_nil_of_length_eq_zero (by show kids.length = 0; rw [M3.out]; simpa using hb), nmK_no (show ¬ (15 : Int) = 7 by decide) (show ¬ (15 : Int) = 4 by decide)⟩⟩) HW.out
    by_cases k20 : k = 20
    · subst k20
      go_wp2
      go_ret
      exact .yes (fun hb => ⟨nofun, ALLk.out, nofun, Or.inl ⟨rfl, List.eq_nil_of_length_eq_zero (by show kids.length = 0; rw [M3.out]; simpa using hb), nmK_no (show ¬ (20 : Int) = 7 by decide) (show ¬ (20 : Int) = 4 by decide)⟩⟩) HW.out
    by_cases k21 : k = 21
    · subst k21
      go_wp2
      go_ret
      exact .yes (fun hb => ⟨nofun, ALLk.out, nofun, Or.inl ⟨rfl, List.eq_nil_of_length_eq_zero (by show kids.length = 0; rw [M3.out]; simpa using hb), nmK_no (show ¬ (21 : Int) = 7 by decide) (show ¬ (21 : Int) = 4 by decide)⟩⟩) HW.out
    by_cases k7 : k = 7
    · subst k7
      by_cases z : m3 = 0
      · subst z
        go_wp2
        go_ret
        exact .yes (fun hb => ⟨nofun, ALLk.out, nofun, Or.inl ⟨rfl, List.eq_nil_of_length_eq_zero (by show kids.length = 0; rw [M3.out]), fun _ => by show 0 < names.length; rw [M1.out]; simpa using hb⟩⟩) HW.out
      · have e : ((m3 : Int) == 0) = false := by simpa using z
        go_wp2
        go_ret
        exact .yes (fun hb => absurd hb (by simp)) HW.out
    by_cases k17 : k = 17
    · subst k17
      by_cases z : m3 = 0
      · subst z
        go_wp2
        go_ret
        exact .yes (fun hb => ⟨nofun, ALLk.out, nofun, Or.inl ⟨rfl, List.eq_nil_of_length_eq_zero (by show kids.length = 0; rw [M3.out]), fun _ => by show 0 < names.length; rw [M1.out]; simpa using hb⟩⟩) HW.out
      · have e : ((m3 : Int) == 0) = false := by simpa using z
        go_wp2
        go_ret
        exact .yes (fun hb => absurd hb (by simp)) HW.out
    by_cases k2 : k = 2
    · subst k2
      by_cases z : m3 = 1
      · subst z
        have hrow3 : Row wo S 12 (SN wo S d) (.slice A3 kids.length c3) kids := H3.out.mono (fun cs a _ => SN.mono (fun _ h _ => h) (Keeps.of_below HW.out) d cs a) (fun _ h _ => h) (Keeps.of_below HW.out)
        obtain ⟨p, b', o', B1, e1, B2, e2, B3, e3, B4, e4, hp, hA, _, _, hsn, g0, g1, g2, g3, g4, g5, g6, g7, g8, g9, g10, g11⟩ := SN.at hrow3 (k := 0) (by rw [M3.out]; omega)
        subst hA
        have P := Lib.hid hp
        simp only [Nat.zero_mul, Nat.add_zero] at g0
        clear hsn g1 g2 g3 g4 g5 g6 g7 g8 g9 g10 g11
        clear hrow3 hp
        go_wp2
        go_ret
        exact .yes (fun hb => ⟨nofun, ALLk.out, nofun, Or.inr (Or.inl ⟨rfl, p, one_of M3.out (fun _ => P.out), by simpa using hb⟩)⟩) HW.out
      · have e : ((m3 : Int) == 1) = false := by simp; omega
        go_wp2
        go_ret
        exact .yes (fun hb => absurd hb (by simp)) HW.out
    by_cases k16 : k = 16
    · subst k16
      by_cases z0 : m3 = 0
      · subst z0
        go_wp2
        go_ret
        exact .yes (fun _ => ⟨nofun, ALLk.out, nofun, Or.inr (Or.inr (Or.inl ⟨rfl, Or.inl (List.eq_nil_of_length_eq_zero (by show kids.length = 0; rw [M3.out]))⟩))⟩) HW.out
      have e0 : ((m3 : Int) == 0) = false := by simpa using z0
      by_cases z : m3 = 1
      · subst z
        clear e0 z0
        have hrow3 : Row wo S 12 (SN wo S d) (.slice A3 kids.length c3) kids := H3.out.mono (fun cs a _ => SN.mono (fun _ h _ => h) (Keeps.of_below HW.out) d cs a) (fun _ h _ => h) (Keeps.of_below HW.out)
        obtain ⟨p, b', o', B1, e1, B2, e2, B3, e3, B4, e4, hp, hA, _, _, hsn, g0, g1, g2, g3, g4, g5, g6, g7, g8, g9, g10, g11⟩ := SN.at hrow3 (k := 0) (by rw [M3.out]; omega)
        subst hA
        have P := Lib.hid hp
        simp only [Nat.zero_mul, Nat.add_zero] at g0
        clear hsn g1 g2 g3 g4 g5 g6 g7 g8 g9 g10 g11
        clear hrow3 hp
        go_wp2
        go_ret
        exact .yes (fun hb => ⟨nofun, ALLk.out, nofun, Or.inr (Or.inr (Or.inl ⟨rfl, Or.inr ⟨p, one_of M3.out (fun _ => P.out), by simpa using hb⟩⟩))⟩) HW.out
      · have e : ((m3 : Int) == 1) = false := by simp; omega
        go_wp2
        go_ret
        exact .yes (fun hb => absurd hb (by simp)) HW.out
    by_cases k4 : k = 4
    · subst k4
      by_cases z : m3 = 1
      · subst z
        by_cases z1 : m1 = 0
        · subst z1
          go_wp2
          go_ret
          exact .yes (fun hb => absurd hb (by simp)) HW.out
        have hpos : 0 < m1 := by omega
        have hrow3 : Row wo S 12 (SN wo S d) (.slice A3 kids.length c3) kids := H3.out.mono (fun cs a _ => SN.mono (fun _ h _ => h) (Keeps.of_below HW.out) d cs a) (fun _ h _ => h) (Keeps.of_below HW.out)
        obtain ⟨p, b', o', B1, e1, B2, e2, B3, e3, B4, e4, hp, hA, _, _, hsn, g0, g1, g2, g3, g4, g5, g6, g7, g8, g9, g10, g11⟩ := SN.at hrow3 (k := 0) (by rw [M3.out]; omega)
        subst hA
        have P := Lib.hid hp
        simp only [Nat.zero_mul, Nat.zero_add, Nat.add_zero] at g0 g1 g2 g3 g4 g5 g6 g7 g8 g9 g10 g11
        clear hrow3 hp hsn
        generalize p.names.length = l1 at *
        generalize p.decl.length = l2 at *
        generalize p.kids.length = l3 at *
        generalize p.els.length = l4 at *
        by_cases ho : operandK p.kind = true
        · have HO := Lib.hid ho
          go_wp2_with (go_at_call 13; refine (operand_any _ _ _ _ _ _ _ _ _ _ _ _ _).mono ?_; rintro e w2 ⟨rfl, hb2⟩; rw [HO.out])
          go_ret
          exact .yes (fun hb => ⟨nofun, ALLk.out, nofun, Or.inr (Or.inr (Or.inr (Or.inl ⟨rfl, (fun _ => by show 0 < names.length; rw [M1.out]; exact hpos), p, one_of M3.out (fun _ => P.out), Or.inl HO.out⟩)))⟩) (below_trans HW.out hb2)
        · have HO := Lib.hid (Bool.not_eq_true _ ▸ ho : operandK p.kind = false)
          clear ho
          go_wp2_with (go_at_call 13; refine (operand_any _ _ _ _ _ _ _ _ _ _ _ _ _).mono ?_; rintro e w2 ⟨rfl, hb2⟩; rw [HO.out]; have q7 := (hb2.cell (p := ⟨w.heap.size, 7, none⟩) (lt_of_cell f7)).trans f7; have qg := (hb2.cell (p := ⟨b', o', none⟩) (lt_of_cell g0)).trans g0)
          go_ret
          exact .yes (fun hb => ⟨nofun, ALLk.out, nofun, Or.inr (Or.inr (Or.inr (Or.inl ⟨rfl, (fun _ => by show 0 < names.length; rw [M1.out]; exact hpos), p, one_of M3.out (fun _ => P.out), Or.inr (by simpa using hb)⟩)))⟩) (below_trans HW.out hb2)
      · have e : ((m3 : Int) == 1) = false := by simp; omega
        go_wp2
        go_ret
        exact .yes (fun hb => absurd hb (by simp)) HW.out
    by_cases k5 : k = 5
    · subst k5
      go_wp2_with fail
      go_loopw [171] (fun i wy => ∃ j : Nat, j ≤ m3 ∧ i = .int .i64 j ∧ Below wo.heap.size wo wy ∧ FstK (fun p => operandK p.kind = true ∨ p.kind = 13 ∨ p.kind = 4) j kids) (fun i _ => m3 - (intOf i).toNat)
      case atStart => exact ⟨0, by omega, rfl, Below.refl _ _, .zero _ _⟩
      case round =>
        obtain ⟨j, hj, rfl, hbl, hfst⟩ := hrel
        have q6 := (hbl.cell (p := ⟨w.heap.size, 6, none⟩) (lt_of_cell f6)).trans f6
        have q7 := (hbl.cell (p := ⟨w.heap.size, 7, none⟩) (lt_of_cell f7)).trans f7
        have BL := Lib.hid hbl
        have FST := Lib.hid hfst
        clear hbl hfst f0 f3 f6 f7 f8 f9
        by_cases hlt : j < m3
        · have hlt' : j < kids.length := by rw [M3.out]; exact hlt
          have hw : Below w.heap.size w wr := HW.out.trans (BL.out.mono HW.out.size)
          have hrow3 : Row wr S 12 (SN wr S d) (.slice A3 kids.length c3) kids := H3.out.mono (fun cs a _ => SN.mono (fun _ h _ => h) (Keeps.of_below hw) d cs a) (fun _ h _ => h) (Keeps.of_below hw)
          obtain ⟨p, b', o', B1, e1, B2, e2, B3, e3, B4, e4, hp, rfl, _, _, hsn, g0, g1, g2, g3, g4, g5, g6, g7, g8, g9, g10, g11⟩ := SN.at hrow3 hlt'
          have P := Lib.hid hp
          have HWR := Lib.hid hw
          clear hrow3 hsn hw hp
          generalize p.names.length = l1 at *
          generalize p.decl.length = l2 at *
          generalize p.kids.length = l3 at *
          generalize p.els.length = l4 at *
          by_cases ho : operandK p.kind = true
          · have HO := Lib.hid ho
            clear ho
            go_wp2_with (go_at_call 13; refine (operand_any _ _ _ _ _ _ _ _ _ _ _ _ _).mono ?_; rintro e w2 ⟨rfl, hb2⟩; rw [HO.out])
            go_roundw
            case rel => first | exact ⟨j + 1, by omega, by go_num, below_trans BL.out (below_alloc hb2), FST.out.succ hlt' (by have hp := P.out; show (fun p => operandK p.kind = true ∨ p.kind = 13 ∨ p.kind = 4) kids[j]; rw [hp]; exact Or.inl HO.out)⟩ | ((repeat apply Exists.intro); exact ⟨⟨j + 1, by omega, by go_num, below_trans BL.out (below_alloc hb2), FST.out.succ hlt' (by have hp := P.out; show (fun p => operandK p.kind = true ∨ p.kind = 13 ∨ p.kind = 4) kids[j]; rw [hp]; exact Or.inl HO.out)⟩, rfl⟩)
            case measure => simp [intOf]; omega
          · have HO := Lib.hid (Bool.not_eq_true _ ▸ ho : operandK p.kind = false)
            clear ho
            generalize hpk : p.kind = pk at *
            have PK := Lib.hid hpk
            clear hpk
            go_wp2_with (go_at_call 13; refine (operand_any _ _ _ _ _ _ _ _ _ _ _ _ _).mono ?_; rintro e w2 ⟨rfl, hb2⟩; rw [HO.out]; have q8 := (hb2.cell (p := ⟨wr.heap.size, 0, none⟩) (by simp)).trans (World.cell?_alloc_at _ _ _ _ rfl))
            · go_ret
              exact .no (below_trans (below_trans HWR.out (below_new _ _)) hb2)
            all_goals go_roundw
            all_goals first
              | (case measure => simp [intOf]; omega)
              | (case rel => first | exact ⟨j + 1, by omega, by go_num, below_trans BL.out (below_alloc hb2), FST.out.succ hlt' (by have hp := P.out; show (fun p => operandK p.kind = true ∨ p.kind = 13 ∨ p.kind = 4) kids[j]; rw [hp]; first | (have h := ‹(pk != 4) = false›; simp at h; exact Or.inr (Or.inr (by rw [PK.out]; exact h))) | (have := PK.out; exact Or.inr (by omega)))⟩ | ((repeat apply Exists.intro); exact ⟨⟨j + 1, by omega, by go_num, below_trans BL.out (below_alloc hb2), FST.out.succ hlt' (by have hp := P.out; show (fun p => operandK p.kind = true ∨ p.kind = 13 ∨ p.kind = 4) kids[j]; rw [hp]; first | (have h := ‹(pk != 4) = false›; simp at h; exact Or.inr (Or.inr (by rw [PK.out]; exact h))) | (have := PK.out; exact Or.inr (by omega)))⟩, rfl⟩))
        · have hj' : j = m3 := by omega
          subst hj'
          have hk : ∀ p ∈ kids, (fun p => operandK p.kind = true ∨ p.kind = 13 ∨ p.kind = 4) p := FST.out.all (by rw [M3.out]; exact Nat.le_refl _)
          have HK := Lib.hid hk
          clear hk
          go_wp2
          go_ret
          exact .yes (fun hb => ⟨nofun, ALLk.out, nofun, Or.inr (Or.inr (Or.inr (Or.inr (Or.inl ⟨rfl, HK.out⟩))))⟩) (HW.out.trans (BL.out.mono HW.out.size))
    by_cases k13 : k = 13
    · subst k13
      go_wp2_with fail
      go_loopw [198] (fun i wy => ∃ j : Nat, j ≤ m3 ∧ i = .int .i64 j ∧ Below wo.heap.size wo wy ∧ FstK (fun p => p.kind = 5) j kids) (fun i _ => m3 - (intOf i).toNat)
      case atStart => exact ⟨0, by omega, rfl, Below.refl _ _, .zero _ _⟩
      case round =>
        obtain ⟨j, hj, rfl, hbl, hfst⟩ := hrel
        have q6 := (hbl.cell (p := ⟨w.heap.size, 6, none⟩) (lt_of_cell f6)).trans f6
        have q7 := (hbl.cell (p := ⟨w.heap.size, 7, none⟩) (lt_of_cell f7)).trans f7
        have BL := Lib.hid hbl
        have FST := Lib.hid hfst
        clear hbl hfst f0 f3 f6 f7 f8 f9
        by_cases hlt : j < m3
        · have hlt' : j < kids.length := by rw [M3.out]; exact hlt
          have hw : Below w.heap.size w wr := HW.out.trans (BL.out.mono HW.out.size)
          have hrow3 : Row wr S 12 (SN wr S d) (.slice A3 kids.length c3) kids := H3.out.mono (fun cs a _ => SN.mono (fun _ h _ => h) (Keeps.of_below hw) d cs a) (fun _ h _ => h) (Keeps.of_below hw)
          obtain ⟨p, b', o', B1, e1, B2, e2, B3, e3, B4, e4, hp, rfl, _, _, hsn, g0, g1, g2, g3, g4, g5, g6, g7, g8, g9, g10, g11⟩ := SN.at hrow3 hlt'
          have P := Lib.hid hp
          have HWR := Lib.hid hw
          clear hrow3 hsn hw hp
          generalize p.names.length = l1 at *
          generalize p.decl.length = l2 at *
          generalize p.kids.length = l3 at *
          generalize p.els.length = l4 at *
          generalize hpk : p.kind = pk at *
          have PK := Lib.hid hpk
          clear hpk
          by_cases y : pk = 5
          · subst y
            go_wp2
            go_roundw
            case rel => first | exact ⟨j + 1, by omega, by go_num, below_trans BL.out (below_new _ _), FST.out.succ hlt' (by have hp := P.out; show (fun p => p.kind = 5) kids[j]; rw [hp]; exact PK.out)⟩ | ((repeat apply Exists.intro); exact ⟨⟨j + 1, by omega, by go_num, below_trans BL.out (below_new _ _), FST.out.succ hlt' (by have hp := P.out; show (fun p => p.kind = 5) kids[j]; rw [hp]; exact PK.out)⟩, rfl⟩)
            case measure => simp [intOf]; omega
          · have e : (pk == 5) = false := by simpa using y
            go_wp2
            go_ret
            exact .no (below_trans HWR.out (below_new _ _))
        · have hj' : j = m3 := by omega
          subst hj'
          have hk : ∀ p ∈ kids, (fun p => p.kind = 5) p := FST.out.all (by rw [M3.out]; exact Nat.le_refl _)
          have HK := Lib.hid hk
          clear hk
          go_wp2_with fail
          go_loopw [209] (fun i wy => i = .int .i64 0 ∧ wy = wr) (fun i _ => 0)
          case atStart => exact ⟨rfl, rfl⟩
          case round =>
            obtain ⟨rfl, rfl⟩ := hrel
            have q7' := q7
            go_wp2
            go_ret
            exact .yes (fun hb => ⟨nofun, ALLk.out, nofun, Or.inr (Or.inr (Or.inr (Or.inr (Or.inr (Or.inl ⟨rfl, HK.out, nofun⟩)))))⟩) (HW.out.trans (BL.out.mono HW.out.size))
    by_cases k10 : k = 10
    · subst k10
      go_wp2_with fail
      go_loopw [226] (fun i wy => ∃ j : Nat, j ≤ m3 ∧ i = .int .i64 j ∧ Below wo.heap.size wo wy ∧ FstK (fun p => elementK p.kind = true) j kids) (fun i _ => m3 - (intOf i).toNat)
      case atStart => exact ⟨0, by omega, rfl, Below.refl _ _, .zero _ _⟩
      case round =>
        obtain ⟨j, hj, rfl, hbl, hfst⟩ := hrel
        have q6 := (hbl.cell (p := ⟨w.heap.size, 6, none⟩) (lt_of_cell f6)).trans f6
        have q7 := (hbl.cell (p := ⟨w.heap.size, 7, none⟩) (lt_of_cell f7)).trans f7
        have BL := Lib.hid hbl
        have FST := Lib.hid hfst
        clear hbl hfst f0 f3 f6 f7 f8 f9
        by_cases hlt : j < m3
        · have hlt' : j < kids.length := by rw [M3.out]; exact hlt
          have hw : Below w.heap.size w wr := HW.out.trans (BL.out.mono HW.out.size)
          have hrow3 : Row wr S 12 (SN wr S d) (.slice A3 kids.length c3) kids := H3.out.mono (fun cs a _ => SN.mono (fun _ h _ => h) (Keeps.of_below hw) d cs a) (fun _ h _ => h) (Keeps.of_below hw)
          obtain ⟨p, b', o', B1, e1, B2, e2, B3, e3, B4, e4, hp, rfl, _, _, hsn, g0, g1, g2, g3, g4, g5, g6, g7, g8, g9, g10, g11⟩ := SN.at hrow3 hlt'
          have P := Lib.hid hp
          have HWR := Lib.hid hw
          clear hrow3 hsn hw hp
          generalize p.names.length = l1 at *
          generalize p.decl.length = l2 at *
          generalize p.kids.length = l3 at *
          generalize p.els.length = l4 at *
          by_cases he : elementK p.kind = true
          · have HE := Lib.hid he
            clear he
            go_wp2_with (go_at_call 14; refine (element_any _ _).mono ?_; rintro e w2 ⟨rfl, rfl⟩; rw [HE.out])
            go_roundw
            case rel => first | exact ⟨j + 1, by omega, by go_num, below_trans BL.out (below_new _ _), FST.out.succ hlt' (by have hp := P.out; show (fun p => elementK p.kind = true) kids[j]; rw [hp]; exact HE.out)⟩ | ((repeat apply Exists.intro); exact ⟨⟨j + 1, by omega, by go_num, below_trans BL.out (below_new _ _), FST.out.succ hlt' (by have hp := P.out; show (fun p => elementK p.kind = true) kids[j]; rw [hp]; exact HE.out)⟩, rfl⟩)
            case measure => simp [intOf]; omega
          · have HE := Lib.hid (Bool.not_eq_true _ ▸ he : elementK p.kind = false)
            clear he
            go_wp2_with (go_at_call 14; refine (element_any _ _).mono ?_; rintro e w2 ⟨rfl, rfl⟩; rw [HE.out])
            go_ret
            exact .no (below_trans HWR.out (below_new _ _))
        · have hj' : j = m3 := by omega
          subst hj'
          have hk : ∀ p ∈ kids, (fun p => elementK p.kind = true) p := FST.out.all (by rw [M3.out]; exact Nat.le_refl _)
          have HK := Lib.hid hk
          clear hk
          go_wp2
          go_ret
          exact .yes (fun hb => ⟨nofun, ALLk.out, nofun, Or.inr (Or.inr (Or.inr (Or.inr (Or.inr (Or.inr (Or.inl ⟨rfl, HK.out⟩))))))⟩) (HW.out.trans (BL.out.mono HW.out.size))
    by_cases k9 : k = 9
    · subst k9
      by_cases z : m3 = 2
      · subst z
        have hrow3 : Row wo S 12 (SN wo S d) (.slice A3 kids.length c3) kids := H3.out.mono (fun cs a _ => SN.mono (fun _ h _ => h) (Keeps.of_below HW.out) d cs a) (fun _ h _ => h) (Keeps.of_below HW.out)
        obtain ⟨p, b', o', B1, e1, B2, e2, B3, e3, B4, e4, hp, hA, _, _, hsn, g0, g1, g2, g3, g4, g5, g6, g7, g8, g9, g10, g11⟩ := SN.at hrow3 (k := 0) (by rw [M3.out]; omega)
        obtain ⟨px, bx', ox', B1x, e1x, B2x, e2x, B3x, e3x, B4x, e4x, hpx, hAx, _, _, hsnx, g0x, g1x, g2x, g3x, g4x, g5x, g6x, g7x, g8x, g9x, g10x, g11x⟩ := SN.at hrow3 (k := 1) (by rw [M3.out]; omega)
        subst hA
        obtain ⟨rfl, rfl⟩ : b' = bx' ∧ o' = ox' := by injection hAx with h; injection h with h1 h2; exact ⟨h1, h2⟩
        have P := Lib.hid hp
        have PX := Lib.hid hpx
        simp only [Nat.zero_mul, Nat.add_zero, Nat.one_mul] at g0 g0x
        clear hsn g1 g2 g3 g4 g5 g6 g7 g8 g9 g10 g11
        clear hsnx g1x g2x g3x g4x g5x g6x g7x g8x g9x g10x g11x
        clear hrow3 hp hpx hAx
        by_cases y1 : p.kind = 13
        · by_cases y2 : px.kind = 10
          · have Y1 := Lib.hid y1
            have Y2 := Lib.hid y2
            rw [y1] at g0
            rw [y2] at g0x
            clear y1 y2
            go_wp2
            go_ret
            exact .yes (fun _ => ⟨nofun, ALLk.out, nofun, Or.inr (Or.inr (Or.inr (Or.inr (Or.inr (Or.inr (Or.inr (⟨Or.inl rfl, p, px, two_of M3.out (fun _ => P.out) (fun _ => PX.out), Y1.out, Y2.out, Or.inl ⟨rfl, rfl⟩⟩)))))))⟩) HW.out
          · have e : (px.kind == 10) = false := by simpa using y2
            rw [y1] at g0
            go_wp2
            go_ret
            exact .yes (fun hb => absurd hb (by simp)) HW.out
        · have e : (p.kind == 13) = false := by simpa using y1
          go_wp2
          go_ret
          exact .yes (fun hb => absurd hb (by simp)) HW.out
      · have e : ((m3 : Int) == 2) = false := by simp; omega
        go_wp2
        go_ret
        exact .yes (fun hb => absurd hb (by simp)) HW.out
    by_cases k14 : k = 14
    · subst k14
      by_cases z : m3 = 2
      · subst z
        have hrow3 : Row wo S 12 (SN wo S d) (.slice A3 kids.length c3) kids := H3.out.mono (fun cs a _ => SN.mono (fun _ h _ => h) (Keeps.of_below HW.out) d cs a) (fun _ h _ => h) (Keeps.of_below HW.out)
        obtain ⟨p, b', o', B1, e1, B2, e2, B3, e3, B4, e4, hp, hA, _, _, hsn, g0, g1, g2, g3, g4, g5, g6, g7, g8, g9, g10, g11⟩ := SN.at hrow3 (k := 0) (by rw [M3.out]; omega)
        obtain ⟨px, bx', ox', B1x, e1x, B2x, e2x, B3x, e3x, B4x, e4x, hpx, hAx, _, _, hsnx, g0x, g1x, g2x, g3x, g4x, g5x, g6x, g7x, g8x, g9x, g10x, g11x⟩ := SN.at hrow3 (k := 1) (by rw [M3.out]; omega)
        subst hA
        obtain ⟨rfl, rfl⟩ : b' = bx' ∧ o' = ox' := by injection hAx with h; injection h with h1 h2; exact ⟨h1, h2⟩
        have P := Lib.hid hp
        have PX := Lib.hid hpx
        simp only [Nat.zero_mul, Nat.add_zero, Nat.one_mul] at g0 g0x
        clear hsn g1 g2 g3 g4 g5 g6 g7 g8 g9 g10 g11
        clear hsnx g1x g2x g3x g4x g5x g6x g7x g8x g9x g10x g11x
        clear hrow3 hp hpx hAx
        by_cases y1 : p.kind = 13
        · by_cases y2 : px.kind = 10
          · have Y1 := Lib.hid y1
            have Y2 := Lib.hid y2
            rw [y1] at g0
            rw [y2] at g0x
            clear y1 y2
            go_wp2
            go_ret
            exact .yes (fun _ => ⟨nofun, ALLk.out, nofun, Or.inr (Or.inr (Or.inr (Or.inr (Or.inr (Or.inr (Or.inr (⟨Or.inr (Or.inl rfl), p, px, two_of M3.out (fun _ => P.out) (fun _ => PX.out), Y1.out, Y2.out, Or.inl ⟨rfl, rfl⟩⟩)))))))⟩) HW.out
          · have e : (px.kind == 10) = false := by simpa using y2
            rw [y1] at g0
            go_wp2
            go_ret
            exact .yes (fun hb => absurd hb (by simp)) HW.out
        · have e : (p.kind == 13) = false := by simpa using y1
          go_wp2
          go_ret
          exact .yes (fun hb => absurd hb (by simp)) HW.out
      · have e : ((m3 : Int) == 2) = false := by simp; omega
        go_wp2
        go_ret
        exact .yes (fun hb => absurd hb (by simp)) HW.out
    by_cases k18 : k = 18
    · subst k18
      by_cases z : m3 = 2
      · subst z
        have hrow3 : Row wo S 12 (SN wo S d) (.slice A3 kids.length c3) kids := H3.out.mono (fun cs a _ => SN.mono (fun _ h _ => h) (Keeps.of_below HW.out) d cs a) (fun _ h _ => h) (Keeps.of_below HW.out)
        obtain ⟨p, b', o', B1, e1, B2, e2, B3, e3, B4, e4, hp, hA, _, _, hsn, g0, g1, g2, g3, g4, g5, g6, g7, g8, g9, g10, g11⟩ := SN.at hrow3 (k := 0) (by rw [M3.out]; omega)
        obtain ⟨px, bx', ox', B1x, e1x, B2x, e2x, B3x, e3x, B4x, e4x, hpx, hAx, _, _, hsnx, g0x, g1x, g2x, g3x, g4x, g5x, g6x, g7x, g8x, g9x, g10x, g11x⟩ := SN.at hrow3 (k := 1) (by rw [M3.out]; omega)
        subst hA
        obtain ⟨rfl, rfl⟩ : b' = bx' ∧ o' = ox' := by injection hAx with h; injection h with h1 h2; exact ⟨h1, h2⟩
        have P := Lib.hid hp
        have PX := Lib.hid hpx
        simp only [Nat.zero_mul, Nat.add_zero, Nat.one_mul] at g0 g0x
        clear hsn g1 g2 g3 g4 g5 g6 g7 g8 g9 g10 g11
        clear hsnx g1x g2x g3x g4x g5x g6x g7x g8x g9x g10x g11x
        clear hrow3 hp hpx hAx
        by_cases y1 : p.kind = 13
        · by_cases y2 : px.kind = 10
          · have Y1 := Lib.hid y1
            have Y2 := Lib.hid y2
            rw [y1] at g0
            rw [y2] at g0x
            clear y1 y2
            go_wp2
            go_ret
            exact .yes (fun _ => ⟨nofun, ALLk.out, nofun, Or.inr (Or.inr (Or.inr (Or.inr (Or.inr (Or.inr (Or.inr (⟨Or.inr (Or.inr rfl), p, px, two_of M3.out (fun _ => P.out) (fun _ => PX.out), Y1.out, Y2.out, Or.inl ⟨rfl, rfl⟩⟩)))))))⟩) HW.out
          · have e : (px.kind == 10) = false := by simpa using y2
            rw [y1] at g0
            go_wp2
            go_ret
            exact .yes (fun hb => absurd hb (by simp)) HW.out
        · have e : (p.kind == 13) = false := by simpa using y1
          go_wp2
          go_ret
          exact .yes (fun hb => absurd hb (by simp)) HW.out
      · have e : ((m3 : Int) == 2) = false := by simp; omega
        go_wp2
        go_ret
        exact .yes (fun hb => absurd hb (by simp)) HW.out
    have n1 : (k == 1) = false := by simpa using k1
    have n19 : (k == 19) = false := by simpa using k19
    have n3 : (k == 3) = false := by simpa using k3
    have n6 : (k == 6) = false := by simpa using k6
    have n8 : (k == 8) = false := by simpa using k8
    have n11 : (k == 11) = false := by simpa using k11
    have n12 : (k == 12) = false := by simpa using k12
    have n15 : (k == 15) = false := by simpa using k15
    have n20 : (k == 20) = false := by simpa using k20
    have n21 : (k == 21) = false := by simpa using k21
    have n7 : (k == 7) = false := by simpa using k7
    have n17 : (k == 17) = false := by simpa using k17
    have n2 : (k == 2) = false := by simpa using k2
    have n16 : (k == 16) = false := by simpa using k16
    have n4 : (k == 4) = false := by simpa using k4
    have n5 : (k == 5) = false := by simpa using k5
    have n13 : (k == 13) = false := by simpa using k13
    have n10 : (k == 10) = false := by simpa using k10
    have n9 : (k == 9) = false := by simpa using k9
    have n14 : (k == 14) = false := by simpa using k14
    have n18 : (k == 18) = false := by simpa using k18
    clear k1 k19 k3 k6 k8 k11 k12 k15 k20 k21 k7 k17 k2 k16 k4 k5 k13 k10 k9 k14 k18
    go_wp2
    go_ret
    exact .no HW.out
end Go.Proofs.YtiogfkpclkkoaaaGreat
