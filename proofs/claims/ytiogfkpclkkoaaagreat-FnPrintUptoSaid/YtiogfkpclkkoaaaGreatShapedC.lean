/-
  The walk of spec.Shaped (variables: a pipeline): where it returns true the parts of a node fit its kind, at every depth. Printed by py/shaped.py.
-/
import Derived.Test.YtiogfkpclkkoaaaGreatS1
import Derived.Test.YtiogfkpclkkoaaaGreatFacts
import Derived.LoopTactic
import Derived.Deep.LoopGhost
import Derived.Deep.DeepCutAuto
import Derived.BigGuardPart
set_option linter.unusedVariables false
set_option linter.unusedSimpArgs false
namespace Go.Proofs.YtiogfkpclkkoaaaGreat
open Go.RowKit

set_option maxHeartbeats 4000000 in
set_option maxRecDepth 100000 in
/-- With variables: a pipeline. -/
theorem shaped_v3 (d : Nat) (ih : ∀ cs n S w, SN w S d cs n → Sm d n → Calls Tryz.prog 5 #[.agg cs.toArray] w (ShapedPost w d n))
    (t v : ByteArray) (names : List ByteArray) (tru asg : Bool) (decl : List Nd) (kids : List Nd) (num : Int) (ex : Bool) (S : Nat → Prop) (w : World) (A1 A2 A3 A4 : Option Addr) (c1 c2 c3 c4 : Nat)
    (h2 : Row w S 12 (SN w S d) (.slice A2 decl.length c2) decl) (s2 : Sms d decl) (hd : 0 < decl.length)
    (h3 : Row w S 12 (SN w S d) (.slice A3 kids.length c3) kids) (s3 : Sms d kids) (hm1 : names.length ≤ 1048576) :
    Calls Tryz.prog 5 #[.agg #[.int .i64 13, .string t, .string v, .slice A1 names.length c1, .bool tru, .bool asg, .slice A2 decl.length c2, .slice A3 kids.length c3, .slice A4 0 c4, .bool false, .int .i64 num, .bool ex]] w
      (ShapedPost w (d + 1) (.mk 13 t v names tru asg decl kids [] false num ex)) := by
  have IH := Lib.hid ih
  have H3 := Lib.hid h3
  have y3 := s3.1
  have S3 := Lib.hid s3
  clear ih h3 s3
  have H2 := Lib.hid h2
  have y2 := s2.1
  have S2 := Lib.hid s2
  clear h2 s2
  generalize hm2 : decl.length = m2 at y2 hd
  have M2 := Lib.hid hm2
  clear hm2
  generalize hm3 : kids.length = m3 at y3
  generalize hm1' : names.length = m1 at hm1
  have M3 := Lib.hid hm3
  have M1 := Lib.hid hm1'
  clear hm3 hm1'
  go_enter Tryz.func5, Tryz.ntmps5
  go_upto_region 5 with (first
    | (go_at_call 12; refine (neat_any _ _ _ _ _ _ _ _ _ _ _ _ _ _ _ _ _ _ _ _ _).mono ?_; rintro e w1 ⟨b, rfl, hb1⟩; replace hb1 := Boxed.of hb1)
    | (go_at_call 11; refine (branch_any _ _).mono ?_; rintro e w1 ⟨rfl, rfl⟩))
  · go_ret
    exact .no hb1.1
  obtain rfl : b = true := by simpa using ‹(!b) = false›
  clear ‹(!true) = false›
  simp only [Bool.not_true]
  have c6 : w1.cell? ⟨w.heap.size, 6, none⟩ = some (.slice A2 m2 c2) := hb1.cell 6
  have c7 : w1.cell? ⟨w.heap.size, 7, none⟩ = some (.slice A3 m3 c3) := hb1.cell 7
  have c8 : w1.cell? ⟨w.heap.size, 8, none⟩ = some (.slice A4 0 c4) := hb1.cell 8
  go_wp2_with fail
  obtain ⟨g, hg⟩ : ∃ g, g = w1.heap.size := ⟨_, rfl⟩
  have G := Lib.hid hg
  rw [← hg]
  clear hg
  go_loopw [60] (fun i wr => ∃ q : Nat, q ≤ 3 ∧ i = .int .i64 q ∧ Boxed w wr #[.int .i64 13, .string t, .string v, .slice A1 m1 c1, .bool tru, .bool asg, .slice A2 m2 c2, .slice A3 m3 c3, .slice A4 0 c4, .bool false, .int .i64 num, .bool ex] 25 ∧ wr.heap[g]? = some (.cells #[.slice A2 m2 c2, .slice A3 m3 c3, .slice A4 0 c4] 23 (0, 0)) ∧ (1 ≤ q → ∀ p ∈ decl, Shp d p) ∧ (2 ≤ q → ∀ p ∈ kids, Shp d p)) (fun i _ => 3 - (intOf i).toNat)
  case atStart => exact ⟨0, by omega, rfl, hb1.below ((Below.refl _ _).alloc (Nat.le_refl _) _), by rw [G.out]; exact heap_alloc_new w1 _, fun h => absurd h (by omega), fun h => absurd h (by omega)⟩
  case round =>
    obtain ⟨q, hq, rfl, hbx, hrow, halld, hallk⟩ := hrel
    have HBX := Lib.hid hbx
    have HROW := Lib.hid hrow
    have c0 : wr.cell? ⟨g, 0, none⟩ = some (.slice A2 m2 c2) := by simp [World.cell?, hrow]
    have c1' : wr.cell? ⟨g, 1, none⟩ = some (.slice A3 m3 c3) := by simp [World.cell?, hrow]
    have c2' : wr.cell? ⟨g, 2, none⟩ = some (.slice A4 0 c4) := by simp [World.cell?, hrow]
    clear hbx hrow c6 c7 c8
    have HALLd := Lib.hid halld
    clear halld
    have HALLk := Lib.hid hallk
    clear hallk
    obtain ⟨wo, rfl⟩ : ∃ wo : World, wo = wr := ⟨_, rfl⟩
    by_cases e0 : q = 0
    · subst e0
      go_wp2_with fail
      go_loopw [66] (fun i wy => ∃ j : Nat, j ≤ m2 ∧ i = .int .i64 j ∧ Below wo.heap.size wo wy ∧ FstK (Shp d) j decl) (fun i _ => m2 - (intOf i).toNat)
      case atStart => exact ⟨0, by omega, rfl, Below.refl _ _, .zero _ _⟩
      case round =>
        obtain ⟨j, hj, rfl, hbl, hfst⟩ := hrel
        have BL := Lib.hid hbl
        have FST := Lib.hid hfst
        clear hbl hfst
        by_cases hlt : j < m2
        · have hlt' : j < decl.length := by rw [M2.out]; exact hlt
          have hw : Below w.heap.size w wr := HBX.out.1.trans (BL.out.mono HBX.out.1.size)
          have hrow3 : Row wr S 12 (SN wr S d) (.slice A2 decl.length c2) decl := H2.out.mono (fun cs a _ => SN.mono (fun _ h _ => h) (Keeps.of_below hw) d cs a) (fun _ h _ => h) (Keeps.of_below hw)
          obtain ⟨p, b', o', B1, e1, B2, e2, B3, e3, B4, e4, hp, rfl, _, _, hsn, f0, f1, f2, f3, f4, f5, f6, f7, f8, f9, f10, f11⟩ := SN.at hrow3 hlt'
          have hsm : Sm d decl[j] := S2.out.2 _ (List.getElem_mem _)
          rw [hp] at hsm
          have P := Lib.hid hp
          have SNj := Lib.hid hsn
          have SMj := Lib.hid hsm
          have HW := Lib.hid hw
          clear hrow3 hsn hsm hw hp
          generalize p.names.length = l1 at *
          generalize p.decl.length = l2 at *
          generalize p.kids.length = l3 at *
          generalize p.els.length = l4 at *
          go_wp2_with (go_at_call 5; refine (IH.out [_, _, _, _, _, _, _, _, _, _, _, _] p S _ (SN.mono (fun _ h _ => h) (Keeps.of_below ((Below.refl _ _).alloc (Nat.le_refl _) _)) _ _ _ SNj.out) SMj.out).mono ?_; rintro e w2 ⟨b2, rfl, hs2, hb2⟩)
          · go_ret
            exact .no (below_trans (below_trans HW.out (below_new _ _)) hb2)
          · have hb : b2 = true := by simpa using ‹(!b2) = false›
            have hp := P.out
            have hsj : Shp d decl[j] := by rw [hp]; exact hs2 hb
            go_roundw
            case rel => first | exact ⟨j + 1, by omega, by go_num, below_trans BL.out (below_alloc hb2), FST.out.succ hlt' hsj⟩ | ((repeat apply Exists.intro); exact ⟨⟨j + 1, by omega, by go_num, below_trans BL.out (below_alloc hb2), FST.out.succ hlt' hsj⟩, rfl⟩)
            case measure => simp [intOf]; omega
        · have hj' : j = m2 := by omega
          subst hj'
          have hq : ∀ p ∈ decl, Shp d p := FST.out.all (by rw [M2.out]; exact Nat.le_refl _)
          have HQ := Lib.hid hq
          clear hq
          go_wp2
          go_roundw
          case rel => exact ⟨1, by omega, rfl, HBX.out.below BL.out, (BL.out.block g (lt_of_block HROW.out)).trans HROW.out, fun _ => HQ.out, fun h => absurd h (by omega)⟩
          case measure => simp [intOf]
    by_cases e1 : q = 1
    · subst e1
      go_wp2_with fail
      go_loopw [66] (fun i wy => ∃ j : Nat, j ≤ m3 ∧ i = .int .i64 j ∧ Below wo.heap.size wo wy ∧ FstK (Shp d) j kids) (fun i _ => m3 - (intOf i).toNat)
      case atStart => exact ⟨0, by omega, rfl, Below.refl _ _, .zero _ _⟩
      case round =>
        obtain ⟨j, hj, rfl, hbl, hfst⟩ := hrel
        have BL := Lib.hid hbl
        have FST := Lib.hid hfst
        clear hbl hfst
        by_cases hlt : j < m3
        · have hlt' : j < kids.length := by rw [M3.out]; exact hlt
          have hw : Below w.heap.size w wr := HBX.out.1.trans (BL.out.mono HBX.out.1.size)
          have hrow3 : Row wr S 12 (SN wr S d) (.slice A3 kids.length c3) kids := H3.out.mono (fun cs a _ => SN.mono (fun _ h _ => h) (Keeps.of_below hw) d cs a) (fun _ h _ => h) (Keeps.of_below hw)
          obtain ⟨p, b', o', B1, e1, B2, e2, B3, e3, B4, e4, hp, rfl, _, _, hsn, f0, f1, f2, f3, f4, f5, f6, f7, f8, f9, f10, f11⟩ := SN.at hrow3 hlt'
          have hsm : Sm d kids[j] := S3.out.2 _ (List.getElem_mem _)
          rw [hp] at hsm
          have P := Lib.hid hp
          have SNj := Lib.hid hsn
          have SMj := Lib.hid hsm
          have HW := Lib.hid hw
          clear hrow3 hsn hsm hw hp
          generalize p.names.length = l1 at *
          generalize p.decl.length = l2 at *
          generalize p.kids.length = l3 at *
          generalize p.els.length = l4 at *
          go_wp2_with (go_at_call 5; refine (IH.out [_, _, _, _, _, _, _, _, _, _, _, _] p S _ (SN.mono (fun _ h _ => h) (Keeps.of_below ((Below.refl _ _).alloc (Nat.le_refl _) _)) _ _ _ SNj.out) SMj.out).mono ?_; rintro e w2 ⟨b2, rfl, hs2, hb2⟩)
          · go_ret
            exact .no (below_trans (below_trans HW.out (below_new _ _)) hb2)
          · have hb : b2 = true := by simpa using ‹(!b2) = false›
            have hp := P.out
            have hsj : Shp d kids[j] := by rw [hp]; exact hs2 hb
            go_roundw
            case rel => first | exact ⟨j + 1, by omega, by go_num, below_trans BL.out (below_alloc hb2), FST.out.succ hlt' hsj⟩ | ((repeat apply Exists.intro); exact ⟨⟨j + 1, by omega, by go_num, below_trans BL.out (below_alloc hb2), FST.out.succ hlt' hsj⟩, rfl⟩)
            case measure => simp [intOf]; omega
        · have hj' : j = m3 := by omega
          subst hj'
          have hq : ∀ p ∈ kids, Shp d p := FST.out.all (by rw [M3.out]; exact Nat.le_refl _)
          have HQ := Lib.hid hq
          clear hq
          go_wp2
          go_roundw
          case rel => exact ⟨2, by omega, rfl, HBX.out.below BL.out, (BL.out.block g (lt_of_block HROW.out)).trans HROW.out, fun _ => HALLd.out (by omega), fun _ => HQ.out⟩
          case measure => simp [intOf]
    by_cases e2 : q = 2
    · subst e2
      go_wp2_with fail
      go_loopw [66] (fun i wy => i = .int .i64 0 ∧ wy = wo) (fun i _ => 0)
      case atStart => exact ⟨rfl, rfl⟩
      case round =>
        obtain ⟨rfl, rfl⟩ := hrel
        go_wp2
        go_roundw
        case rel => exact ⟨3, by omega, rfl, HBX.out, HROW.out, fun _ => HALLd.out (by omega), fun _ => HALLk.out (by omega)⟩
        case measure => simp [intOf]
    have e3 : q = 3 := by omega
    subst e3
    clear e0 e1 e2 c0 c1' c2'
    have ALLd := Lib.hid (HALLd.out (by omega))
    clear HALLd
    have ALLk := Lib.hid (HALLk.out (by omega))
    clear HALLk
    have f0 : wo.cell? ⟨w.heap.size, 0, none⟩ = some (.int .i64 13) := HBX.out.cell 0
    have f3 : wo.cell? ⟨w.heap.size, 3, none⟩ = some (.slice A1 m1 c1) := HBX.out.cell 3
    have f6 : wo.cell? ⟨w.heap.size, 6, none⟩ = some (.slice A2 m2 c2) := HBX.out.cell 6
    have f7 : wo.cell? ⟨w.heap.size, 7, none⟩ = some (.slice A3 m3 c3) := HBX.out.cell 7
    have f8 : wo.cell? ⟨w.heap.size, 8, none⟩ = some (.slice A4 0 c4) := HBX.out.cell 8
    have f9 : wo.cell? ⟨w.heap.size, 9, none⟩ = some (.bool false) := HBX.out.cell 9
    have HW := Lib.hid HBX.out.1
    clear HROW HBX hq hb1
    go_wp2_with fail
    go_loopw [198] (fun i wy => ∃ j : Nat, j ≤ m3 ∧ i = .int .i64 j ∧ Below wo.heap.size wo wy ∧ FstK (fun p => p.kind = 5) j kids) (fun i _ => m3 - (intOf i).toNat)
    case atStart => exact ⟨0, by omega, rfl, Below.refl _ _, .zero _ _⟩
    case round =>
      obtain ⟨j, hj, rfl, hbl, hfst⟩ := hrel
      have q6 := (hbl.cell (p := ⟨w.heap.size, 6, none⟩) (lt_of_cell f6)).trans f6
      have q7 := (hbl.cell (p := ⟨w.heap.size, 7, none⟩) (lt_of_cell f7)).trans f7
      have BL := Lib.hid hbl
      have FST := Lib.hid hfst
      clear hbl hfst f0 f3 f6 f7 f8 f9
      by_cases hlt : j < m3
      · have hlt' : j < kids.length := by rw [M3.out]; exact hlt
        have hw : Below w.heap.size w wr := HW.out.trans (BL.out.mono HW.out.size)
        have hrow3 : Row wr S 12 (SN wr S d) (.slice A3 kids.length c3) kids := H3.out.mono (fun cs a _ => SN.mono (fun _ h _ => h) (Keeps.of_below hw) d cs a) (fun _ h _ => h) (Keeps.of_below hw)
        obtain ⟨p, b', o', B1, e1, B2, e2, B3, e3, B4, e4, hp, rfl, _, _, hsn, g0, g1, g2, g3, g4, g5, g6, g7, g8, g9, g10, g11⟩ := SN.at hrow3 hlt'
        have P := Lib.hid hp
        have HWR := Lib.hid hw
        clear hrow3 hsn hw hp
        generalize p.names.length = l1 at *
        generalize p.decl.length = l2 at *
        generalize p.kids.length = l3 at *
        generalize p.els.length = l4 at *
        generalize hpk : p.kind = pk at *
        have PK := Lib.hid hpk
        clear hpk
        by_cases y : pk = 5
        · subst y
          go_wp2
          go_roundw
          case rel => first | exact ⟨j + 1, by omega, by go_num, below_trans BL.out (below_new _ _), FST.out.succ hlt' (by have hp := P.out; show (fun p => p.kind = 5) kids[j]; rw [hp]; exact PK.out)⟩ | ((repeat apply Exists.intro); exact ⟨⟨j + 1, by omega, by go_num, below_trans BL.out (below_new _ _), FST.out.succ hlt' (by have hp := P.out; show (fun p => p.kind = 5) kids[j]; rw [hp]; exact PK.out)⟩, rfl⟩)
          case measure => simp [intOf]; omega
        · have e : (pk == 5) = false := by simpa using y
          go_wp2
          go_ret
          exact .no (below_trans HWR.out (below_new _ _))
      · have hj' : j = m3 := by omega
        subst hj'
        have hk : ∀ p ∈ kids, (fun p => p.kind = 5) p := FST.out.all (by rw [M3.out]; exact Nat.le_refl _)
        have HK := Lib.hid hk
        clear hk
        obtain ⟨wk, rfl⟩ : ∃ wk : World, wk = wr := ⟨_, rfl⟩
        have BLK := BL
        clear FST
        go_wp2_with fail
        go_loopw [209] (fun i wy => ∃ j : Nat, j ≤ m2 ∧ i = .int .i64 j ∧ Below wk.heap.size wk wy ∧ FstK (fun p => p.kind = 17) j decl) (fun i _ => m2 - (intOf i).toNat)
        case atStart => exact ⟨0, by omega, rfl, Below.refl _ _, .zero _ _⟩
        case round =>
          obtain ⟨j, hj, rfl, hbl, hfst⟩ := hrel
          have r6 := (hbl.cell (p := ⟨w.heap.size, 6, none⟩) (lt_of_cell q6)).trans q6
          have r7 := (hbl.cell (p := ⟨w.heap.size, 7, none⟩) (lt_of_cell q7)).trans q7
          have BL := Lib.hid hbl
          have FST := Lib.hid hfst
          clear hbl hfst q6 q7
          by_cases hlt : j < m2
          · have hlt' : j < decl.length := by rw [M2.out]; exact hlt
            have hw : Below w.heap.size w wr := (HW.out.trans (BLK.out.mono HW.out.size)).trans (BL.out.mono (Nat.le_trans HW.out.size BLK.out.size))
            have hrow3 : Row wr S 12 (SN wr S d) (.slice A2 decl.length c2) decl := H2.out.mono (fun cs a _ => SN.mono (fun _ h _ => h) (Keeps.of_below hw) d cs a) (fun _ h _ => h) (Keeps.of_below hw)
            obtain ⟨p, b', o', B1, e1, B2, e2, B3, e3, B4, e4, hp, rfl, _, _, hsn, g0, g1, g2, g3, g4, g5, g6, g7, g8, g9, g10, g11⟩ := SN.at hrow3 hlt'
            have P := Lib.hid hp
            have HWR := Lib.hid hw
            clear hrow3 hsn hw hp
            generalize p.names.length = l1 at *
            generalize p.decl.length = l2 at *
            generalize p.kids.length = l3 at *
            generalize p.els.length = l4 at *
            generalize hpk : p.kind = pk at *
            have PK := Lib.hid hpk
            clear hpk
            by_cases y : pk = 17
            · subst y
              go_wp2
              go_roundw
              case rel => first | exact ⟨j + 1, by omega, by go_num, below_trans BL.out (below_new _ _), FST.out.succ hlt' (by have hp := P.out; show (fun p => p.kind = 17) decl[j]; rw [hp]; exact PK.out)⟩ | ((repeat apply Exists.intro); exact ⟨⟨j + 1, by omega, by go_num, below_trans BL.out (below_new _ _), FST.out.succ hlt' (by have hp := P.out; show (fun p => p.kind = 17) decl[j]; rw [hp]; exact PK.out)⟩, rfl⟩)
              case measure => simp [intOf]; omega
            · have e : (pk == 17) = false := by simpa using y
              go_wp2
              go_ret
              exact .no (below_trans HWR.out (below_new _ _))
          · have hj' : j = m2 := by omega
            subst hj'
            have hk : ∀ p ∈ decl, (fun p => p.kind = 17) p := FST.out.all (by rw [M2.out]; exact Nat.le_refl _)
            have HKD := Lib.hid hk
            clear hk
            go_wp2
            go_ret
            exact .yes (fun hb => ⟨ALLd.out, ALLk.out, nofun, Or.inr (Or.inr (Or.inr (Or.inr (Or.inr (Or.inl ⟨rfl, HK.out, HKD.out⟩)))))⟩) ((HW.out.trans (BLK.out.mono HW.out.size)).trans (BL.out.mono (Nat.le_trans HW.out.size BLK.out.size)))
end Go.Proofs.YtiogfkpclkkoaaaGreat
