/-
  The walk of spec.Shaped (an else): where it returns true the parts of a node fit its kind, at every depth. Printed by py/shaped.py.
-/
import Derived.Test.YtiogfkpclkkoaaaGreatS1
import Derived.Test.YtiogfkpclkkoaaaGreatFacts
import Derived.LoopTactic
import Derived.Deep.LoopGhost
import Derived.Deep.DeepCutAuto
import Derived.BigGuardPart
set_option linter.unusedVariables false
set_option linter.unusedSimpArgs false
namespace Go.Proofs.YtiogfkpclkkoaaaGreat
open Go.RowKit

set_option maxHeartbeats 4000000 in
set_option maxRecDepth 100000 in
/-- With an else: if, range or with. -/
theorem shaped_v2 (d : Nat) (ih : ∀ cs n S w, SN w S d cs n → Sm d n → Calls Tryz.prog 5 #[.agg cs.toArray] w (ShapedPost w d n))
    (k : Int) (t v : ByteArray) (names : List ByteArray) (tru asg : Bool) (kids : List Nd) (e0 : Nd) (num : Int) (ex : Bool) (S : Nat → Prop) (w : World) (A1 A2 A3 A4 : Option Addr) (c1 c2 c3 c4 : Nat)
    (h4 : Row w S 12 (SN w S d) (.slice A4 [e0].length c4) [e0]) (s4 : Sms d [e0]) (hbr : branchK k = true)
    (h3 : Row w S 12 (SN w S d) (.slice A3 kids.length c3) kids) (s3 : Sms d kids) (hm1 : names.length ≤ 1048576) :
    Calls Tryz.prog 5 #[.agg #[.int .i64 k, .string t, .string v, .slice A1 names.length c1, .bool tru, .bool asg, .slice A2 0 c2, .slice A3 kids.length c3, .slice A4 1 c4, .bool true, .int .i64 num, .bool ex]] w
      (ShapedPost w (d + 1) (.mk k t v names tru asg [] kids [e0] true num ex)) := by
  have IH := Lib.hid ih
  have H3 := Lib.hid h3
  have y3 := s3.1
  have S3 := Lib.hid s3
  clear ih h3 s3
  have H4 := Lib.hid h4
  have S4 := Lib.hid s4
  have HBR := Lib.hid hbr
  clear h4 s4 hbr
  obtain ⟨els, hels⟩ : ∃ els, els = [e0] := ⟨_, rfl⟩
  have E0 := Lib.hid hels
  have m4 : els.length = 1 := by rw [hels]; rfl
  have M4 := Lib.hid m4
  clear m4
  rw [← hels] at H4 S4
  clear hels
  generalize hm3 : kids.length = m3 at y3
  generalize hm1' : names.length = m1 at hm1
  have M3 := Lib.hid hm3
  have M1 := Lib.hid hm1'
  clear hm3 hm1'
  go_enter Tryz.func5, Tryz.ntmps5
  go_upto_region 5 with (first
    | (go_at_call 12; refine (neat_any _ _ _ _ _ _ _ _ _ _ _ _ _ _ _ _ _ _ _ _ _).mono ?_; rintro e w1 ⟨b, rfl, hb1⟩; replace hb1 := Boxed.of hb1)
    | (go_at_call 11; refine (branch_any _ _).mono ?_; rintro e w1 ⟨rfl, rfl⟩; rw [HBR.out]))
  · go_ret
    exact .no hb1.1
  obtain rfl : b = true := by simpa using ‹(!b) = false›
  clear ‹(!true) = false›
  simp only [Bool.not_true]
  have c6 : w1.cell? ⟨w.heap.size, 6, none⟩ = some (.slice A2 0 c2) := hb1.cell 6
  have c7 : w1.cell? ⟨w.heap.size, 7, none⟩ = some (.slice A3 m3 c3) := hb1.cell 7
  have c8 : w1.cell? ⟨w.heap.size, 8, none⟩ = some (.slice A4 1 c4) := hb1.cell 8
  go_wp2_with fail
  obtain ⟨g, hg⟩ : ∃ g, g = w1.heap.size := ⟨_, rfl⟩
  have G := Lib.hid hg
  rw [← hg]
  clear hg
  go_loopw [60] (fun i wr => ∃ q : Nat, q ≤ 3 ∧ i = .int .i64 q ∧ Boxed w wr #[.int .i64 k, .string t, .string v, .slice A1 m1 c1, .bool tru, .bool asg, .slice A2 0 c2, .slice A3 m3 c3, .slice A4 1 c4, .bool true, .int .i64 num, .bool ex] 25 ∧ wr.heap[g]? = some (.cells #[.slice A2 0 c2, .slice A3 m3 c3, .slice A4 1 c4] 23 (0, 0)) ∧ (2 ≤ q → ∀ p ∈ kids, Shp d p) ∧ (3 ≤ q → ∀ p ∈ els, Shp d p)) (fun i _ => 3 - (intOf i).toNat)
  case atStart => exact ⟨0, by omega, rfl, hb1.below ((Below.refl _ _).alloc (Nat.le_refl _) _), by rw [G.out]; exact heap_alloc_new w1 _, fun h => absurd h (by omega), fun h => absurd h (by omega)⟩
  case round =>
    obtain ⟨q, hq, rfl, hbx, hrow, hallk, halle⟩ := hrel
    have HBX := Lib.hid hbx
    have HROW := Lib.hid hrow
    have c0 : wr.cell? ⟨g, 0, none⟩ = some (.slice A2 0 c2) := by simp [World.cell?, hrow]
    have c1' : wr.cell? ⟨g, 1, none⟩ = some (.slice A3 m3 c3) := by simp [World.cell?, hrow]
    have c2' : wr.cell? ⟨g, 2, none⟩ = some (.slice A4 1 c4) := by simp [World.cell?, hrow]
    clear hbx hrow c6 c7 c8
    have HALLk := Lib.hid hallk
    clear hallk
    have HALLe := Lib.hid halle
    clear halle
    obtain ⟨wo, rfl⟩ : ∃ wo : World, wo = wr := ⟨_, rfl⟩
    by_cases q0 : q = 0
    · subst q0
      go_wp2_with fail
      go_loopw [66] (fun i wy => i = .int .i64 0 ∧ wy = wo) (fun i _ => 0)
      case atStart => exact ⟨rfl, rfl⟩
      case round =>
        obtain ⟨rfl, rfl⟩ := hrel
        go_wp2
        go_roundw
        case rel => exact ⟨1, by omega, rfl, HBX.out, HROW.out, fun h => absurd h (by omega), fun h => absurd h (by omega)⟩
        case measure => simp [intOf]
    by_cases e1 : q = 1
    · subst e1
      go_wp2_with fail
      go_loopw [66] (fun i wy => ∃ j : Nat, j ≤ m3 ∧ i = .int .i64 j ∧ Below wo.heap.size wo wy ∧ FstK (Shp d) j kids) (fun i _ => m3 - (intOf i).toNat)
      case atStart => exact ⟨0, by omega, rfl, Below.refl _ _, .zero _ _⟩
      case round =>
        obtain ⟨j, hj, rfl, hbl, hfst⟩ := hrel
        have BL := Lib.hid hbl
        have FST := Lib.hid hfst
        clear hbl hfst
        by_cases hlt : j < m3
        · have hlt' : j < kids.length := by rw [M3.out]; exact hlt
          have hw : Below w.heap.size w wr := HBX.out.1.trans (BL.out.mono HBX.out.1.size)
          have hrow3 : Row wr S 12 (SN wr S d) (.slice A3 kids.length c3) kids := H3.out.mono (fun cs a _ => SN.mono (fun _ h _ => h) (Keeps.of_below hw) d cs a) (fun _ h _ => h) (Keeps.of_below hw)
          obtain ⟨p, b', o', B1, e1, B2, e2, B3, e3, B4, e4, hp, rfl, _, _, hsn, f0, f1, f2, f3, f4, f5, f6, f7, f8, f9, f10, f11⟩ := SN.at hrow3 hlt'
          have hsm : Sm d kids[j] := S3.out.2 _ (List.getElem_mem _)
          rw [hp] at hsm
          have P := Lib.hid hp
          have SNj := Lib.hid hsn
          have SMj := Lib.hid hsm
          have HW := Lib.hid hw
          clear hrow3 hsn hsm hw hp
          generalize p.names.length = l1 at *
          generalize p.decl.length = l2 at *
          generalize p.kids.length = l3 at *
          generalize p.els.length = l4 at *
          go_wp2_with (go_at_call 5; refine (IH.out [_, _, _, _, _, _, _, _, _, _, _, _] p S _ (SN.mono (fun _ h _ => h) (Keeps.of_below ((Below.refl _ _).alloc (Nat.le_refl _) _)) _ _ _ SNj.out) SMj.out).mono ?_; rintro e w2 ⟨b2, rfl, hs2, hb2⟩)
          · go_ret
            exact .no (below_trans (below_trans HW.out (below_new _ _)) hb2)
          · have hb : b2 = true := by simpa using ‹(!b2) = false›
            have hp := P.out
            have hsj : Shp d kids[j] := by rw [hp]; exact hs2 hb
            go_roundw
            case rel => first | exact ⟨j + 1, by omega, by go_num, below_trans BL.out (below_alloc hb2), FST.out.succ hlt' hsj⟩ | ((repeat apply Exists.intro); exact ⟨⟨j + 1, by omega, by go_num, below_trans BL.out (below_alloc hb2), FST.out.succ hlt' hsj⟩, rfl⟩)
            case measure => simp [intOf]; omega
        · have hj' : j = m3 := by omega
          subst hj'
          have hq : ∀ p ∈ kids, Shp d p := FST.out.all (by rw [M3.out]; exact Nat.le_refl _)
          have HQ := Lib.hid hq
          clear hq
          go_wp2
          go_roundw
          case rel => exact ⟨2, by omega, rfl, HBX.out.below BL.out, (BL.out.block g (lt_of_block HROW.out)).trans HROW.out, fun _ => HQ.out, fun h => absurd h (by omega)⟩
          case measure => simp [intOf]
    by_cases e2 : q = 2
    · subst e2
      go_wp2_with fail
      go_loopw [66] (fun i wy => ∃ j : Nat, j ≤ 1 ∧ i = .int .i64 j ∧ Below wo.heap.size wo wy ∧ FstK (Shp d) j els) (fun i _ => 1 - (intOf i).toNat)
      case atStart => exact ⟨0, by omega, rfl, Below.refl _ _, .zero _ _⟩
      case round =>
        obtain ⟨j, hj, rfl, hbl, hfst⟩ := hrel
        have BL := Lib.hid hbl
        have FST := Lib.hid hfst
        clear hbl hfst
        by_cases hlt : j < 1
        · have hlt' : j < els.length := by rw [M4.out]; exact hlt
          have hw : Below w.heap.size w wr := HBX.out.1.trans (BL.out.mono HBX.out.1.size)
          have hrow3 : Row wr S 12 (SN wr S d) (.slice A4 els.length c4) els := H4.out.mono (fun cs a _ => SN.mono (fun _ h _ => h) (Keeps.of_below hw) d cs a) (fun _ h _ => h) (Keeps.of_below hw)
          obtain ⟨p, b', o', B1, e1, B2, e2, B3, e3, B4, e4, hp, rfl, _, _, hsn, f0, f1, f2, f3, f4, f5, f6, f7, f8, f9, f10, f11⟩ := SN.at hrow3 hlt'
          have hsm : Sm d els[j] := S4.out.2 _ (List.getElem_mem _)
          rw [hp] at hsm
          have P := Lib.hid hp
          have SNj := Lib.hid hsn
          have SMj := Lib.hid hsm
          have HW := Lib.hid hw
          clear hrow3 hsn hsm hw hp
          generalize p.names.length = l1 at *
          generalize p.decl.length = l2 at *
          generalize p.kids.length = l3 at *
          generalize p.els.length = l4 at *
          go_wp2_with (go_at_call 5; refine (IH.out [_, _, _, _, _, _, _, _, _, _, _, _] p S _ (SN.mono (fun _ h _ => h) (Keeps.of_below ((Below.refl _ _).alloc (Nat.le_refl _) _)) _ _ _ SNj.out) SMj.out).mono ?_; rintro e w2 ⟨b2, rfl, hs2, hb2⟩)
          · go_ret
            exact .no (below_trans (below_trans HW.out (below_new _ _)) hb2)
          · have hb : b2 = true := by simpa using ‹(!b2) = false›
            have hp := P.out
            have hsj : Shp d els[j] := by rw [hp]; exact hs2 hb
            go_roundw
            case rel => first | exact ⟨j + 1, by omega, by go_num, below_trans BL.out (below_alloc hb2), FST.out.succ hlt' hsj⟩ | ((repeat apply Exists.intro); exact ⟨⟨j + 1, by omega, by go_num, below_trans BL.out (below_alloc hb2), FST.out.succ hlt' hsj⟩, rfl⟩)
            case measure => simp [intOf]; omega
        · have hj' : j = 1 := by omega
          subst hj'
          have hq : ∀ p ∈ els, Shp d p := FST.out.all (by rw [M4.out]; exact Nat.le_refl _)
          have HQ := Lib.hid hq
          clear hq
          go_wp2
          go_roundw
          case rel => exact ⟨3, by omega, rfl, HBX.out.below BL.out, (BL.out.block g (lt_of_block HROW.out)).trans HROW.out, fun _ => HALLk.out (by omega), fun _ => HQ.out⟩
          case measure => simp [intOf]
    have e3 : q = 3 := by omega
    subst e3
    clear q0 e1 e2 c0 c1' c2'
    have ALLk := Lib.hid (HALLk.out (by omega))
    clear HALLk
    have ALLe := Lib.hid (HALLe.out (by omega))
    clear HALLe
    have f0 : wo.cell? ⟨w.heap.size, 0, none⟩ = some (.int .i64 k) := HBX.out.cell 0
    have f3 : wo.cell? ⟨w.heap.size, 3, none⟩ = some (.slice A1 m1 c1) := HBX.out.cell 3
    have f6 : wo.cell? ⟨w.heap.size, 6, none⟩ = some (.slice A2 0 c2) := HBX.out.cell 6
    have f7 : wo.cell? ⟨w.heap.size, 7, none⟩ = some (.slice A3 m3 c3) := HBX.out.cell 7
    have f8 : wo.cell? ⟨w.heap.size, 8, none⟩ = some (.slice A4 1 c4) := HBX.out.cell 8
    have f9 : wo.cell? ⟨w.heap.size, 9, none⟩ = some (.bool true) := HBX.out.cell 9
    have HW := Lib.hid HBX.out.1
    clear HROW HBX hq hb1
    by_cases k9 : k = 9
    · subst k9
      by_cases z : m3 = 2
      · subst z
        have hrow3 : Row wo S 12 (SN wo S d) (.slice A3 kids.length c3) kids := H3.out.mono (fun cs a _ => SN.mono (fun _ h _ => h) (Keeps.of_below HW.out) d cs a) (fun _ h _ => h) (Keeps.of_below HW.out)
        obtain ⟨p, b', o', B1, e1, B2, e2, B3, e3, B4, e4, hp, hA, _, _, hsn, g0, g1, g2, g3, g4, g5, g6, g7, g8, g9, g10, g11⟩ := SN.at hrow3 (k := 0) (by rw [M3.out]; omega)
        obtain ⟨px, bx', ox', B1x, e1x, B2x, e2x, B3x, e3x, B4x, e4x, hpx, hAx, _, _, hsnx, g0x, g1x, g2x, g3x, g4x, g5x, g6x, g7x, g8x, g9x, g10x, g11x⟩ := SN.at hrow3 (k := 1) (by rw [M3.out]; omega)
        have hrow4 : Row wo S 12 (SN wo S d) (.slice A4 els.length c4) els := H4.out.mono (fun cs a _ => SN.mono (fun _ h _ => h) (Keeps.of_below HW.out) d cs a) (fun _ h _ => h) (Keeps.of_below HW.out)
        obtain ⟨py, by', oy', B1y, e1y, B2y, e2y, B3y, e3y, B4y, e4y, hpy, hAy, _, _, hsny, g0y, g1y, g2y, g3y, g4y, g5y, g6y, g7y, g8y, g9y, g10y, g11y⟩ := SN.at hrow4 (k := 0) (by rw [M4.out]; omega)
        subst hA
        subst hAy
        obtain ⟨rfl, rfl⟩ : b' = bx' ∧ o' = ox' := by injection hAx with h; injection h with h1 h2; exact ⟨h1, h2⟩
        have P := Lib.hid hp
        have PX := Lib.hid hpx
        have PY := Lib.hid hpy
        simp only [Nat.zero_mul, Nat.add_zero, Nat.one_mul] at g0 g0x g0y
        clear hsn g1 g2 g3 g4 g5 g6 g7 g8 g9 g10 g11
        clear hsnx g1x g2x g3x g4x g5x g6x g7x g8x g9x g10x g11x
        clear hsny g1y g2y g3y g4y g5y g6y g7y g8y g9y g10y g11y
        clear hrow3 hrow4 hp hpx hAx hpy
        by_cases y1 : p.kind = 13
        · by_cases y2 : px.kind = 10
          · by_cases y3' : py.kind = 10
            · have Y1 := Lib.hid y1
              have Y2 := Lib.hid y2
              have Y3 := Lib.hid y3'
              rw [y1] at g0
              rw [y2] at g0x
              rw [y3'] at g0y
              clear y1 y2 y3'
              go_wp2
              go_ret
              exact .yes (fun _ => ⟨nofun, ALLk.out, by rw [← E0.out]; exact ALLe.out, Or.inr (Or.inr (Or.inr (Or.inr (Or.inr (Or.inr (Or.inr (⟨Or.inl rfl, p, px, two_of M3.out (fun _ => P.out) (fun _ => PX.out), Y1.out, Y2.out, Or.inr ⟨rfl, py, (by show ([e0] : List Nd) = [py]; rw [← E0.out]; exact one_of M4.out (fun _ => PY.out)), Y3.out⟩⟩)))))))⟩) HW.out
            · have e : (py.kind == 10) = false := by simpa using y3'
              rw [y1] at g0
              rw [y2] at g0x
              go_wp2
              go_ret
              exact .yes (fun hb => absurd hb (by simp)) HW.out
          · have e : (px.kind == 10) = false := by simpa using y2
            rw [y1] at g0
            go_wp2
            go_ret
            exact .yes (fun hb => absurd hb (by simp)) HW.out
        · have e : (p.kind == 13) = false := by simpa using y1
          go_wp2
          go_ret
          exact .yes (fun hb => absurd hb (by simp)) HW.out
      · have e : ((m3 : Int) == 2) = false := by simp; omega
        go_wp2
        go_ret
        exact .yes (fun hb => absurd hb (by simp)) HW.out
    by_cases k14 : k = 14
    · subst k14
      by_cases z : m3 = 2
      · subst z
        have hrow3 : Row wo S 12 (SN wo S d) (.slice A3 kids.length c3) kids := H3.out.mono (fun cs a _ => SN.mono (fun _ h _ => h) (Keeps.of_below HW.out) d cs a) (fun _ h _ => h) (Keeps.of_below HW.out)
        obtain ⟨p, b', o', B1, e1, B2, e2, B3, e3, B4, e4, hp, hA, _, _, hsn, g0, g1, g2, g3, g4, g5, g6, g7, g8, g9, g10, g11⟩ := SN.at hrow3 (k := 0) (by rw [M3.out]; omega)
        obtain ⟨px, bx', ox', B1x, e1x, B2x, e2x, B3x, e3x, B4x, e4x, hpx, hAx, _, _, hsnx, g0x, g1x, g2x, g3x, g4x, g5x, g6x, g7x, g8x, g9x, g10x, g11x⟩ := SN.at hrow3 (k := 1) (by rw [M3.out]; omega)
        have hrow4 : Row wo S 12 (SN wo S d) (.slice A4 els.length c4) els := H4.out.mono (fun cs a _ => SN.mono (fun _ h _ => h) (Keeps.of_below HW.out) d cs a) (fun _ h _ => h) (Keeps.of_below HW.out)
        obtain ⟨py, by', oy', B1y, e1y, B2y, e2y, B3y, e3y, B4y, e4y, hpy, hAy, _, _, hsny, g0y, g1y, g2y, g3y, g4y, g5y, g6y, g7y, g8y, g9y, g10y, g11y⟩ := SN.at hrow4 (k := 0) (by rw [M4.out]; omega)
        subst hA
        subst hAy
        obtain ⟨rfl, rfl⟩ : b' = bx' ∧ o' = ox' := by injection hAx with h; injection h with h1 h2; exact ⟨h1, h2⟩
        have P := Lib.hid hp
        have PX := Lib.hid hpx
        have PY := Lib.hid hpy
        simp only [Nat.zero_mul, Nat.add_zero, Nat.one_mul] at g0 g0x g0y
        clear hsn g1 g2 g3 g4 g5 g6 g7 g8 g9 g10 g11
        clear hsnx g1x g2x g3x g4x g5x g6x g7x g8x g9x g10x g11x
        clear hsny g1y g2y g3y g4y g5y g6y g7y g8y g9y g10y g11y
        clear hrow3 hrow4 hp hpx hAx hpy
        by_cases y1 : p.kind = 13
        · by_cases y2 : px.kind = 10
          · by_cases y3' : py.kind = 10
            · have Y1 := Lib.hid y1
              have Y2 := Lib.hid y2
              have Y3 := Lib.hid y3'
              rw [y1] at g0
              rw [y2] at g0x
              rw [y3'] at g0y
              clear y1 y2 y3'
              go_wp2
              go_ret
              exact .yes (fun _ => ⟨nofun, ALLk.out, by rw [← E0.out]; exact ALLe.out, Or.inr (Or.inr (Or.inr (Or.inr (Or.inr (Or.inr (Or.inr (⟨Or.inr (Or.inl rfl), p, px, two_of M3.out (fun _ => P.out) (fun _ => PX.out), Y1.out, Y2.out, Or.inr ⟨rfl, py, (by show ([e0] : List Nd) = [py]; rw [← E0.out]; exact one_of M4.out (fun _ => PY.out)), Y3.out⟩⟩)))))))⟩) HW.out
            · have e : (py.kind == 10) = false := by simpa using y3'
              rw [y1] at g0
              rw [y2] at g0x
              go_wp2
              go_ret
              exact .yes (fun hb => absurd hb (by simp)) HW.out
          · have e : (px.kind == 10) = false := by simpa using y2
            rw [y1] at g0
            go_wp2
            go_ret
            exact .yes (fun hb => absurd hb (by simp)) HW.out
        · have e : (p.kind == 13) = false := by simpa using y1
          go_wp2
          go_ret
          exact .yes (fun hb => absurd hb (by simp)) HW.out
      · have e : ((m3 : Int) == 2) = false := by simp; omega
        go_wp2
        go_ret
        exact .yes (fun hb => absurd hb (by simp)) HW.out
    by_cases k18 : k = 18
    · subst k18
      by_cases z : m3 = 2
      · subst z
        have hrow3 : Row wo S 12 (SN wo S d) (.slice A3 kids.length c3) kids := H3.out.mono (fun cs a _ => SN.mono (fun _ h _ => h) (Keeps.of_below HW.out) d cs a) (fun _ h _ => h) (Keeps.of_below HW.out)
        obtain ⟨p, b', o', B1, e1, B2, e2, B3, e3, B4, e4, hp, hA, _, _, hsn, g0, g1, g2, g3, g4, g5, g6, g7, g8, g9, g10, g11⟩ := SN.at hrow3 (k := 0) (by rw [M3.out]; omega)
        obtain ⟨px, bx', ox', B1x, e1x, B2x, e2x, B3x, e3x, B4x, e4x, hpx, hAx, _, _, hsnx, g0x, g1x, g2x, g3x, g4x, g5x, g6x, g7x, g8x, g9x, g10x, g11x⟩ := SN.at hrow3 (k := 1) (by rw [M3.out]; omega)
        have hrow4 : Row wo S 12 (SN wo S d) (.slice A4 els.length c4) els := H4.out.mono (fun cs a _ => SN.mono (fun _ h _ => h) (Keeps.of_below HW.out) d cs a) (fun _ h _ => h) (Keeps.of_below HW.out)
        obtain ⟨py, by', oy', B1y, e1y, B2y, e2y, B3y, e3y, B4y, e4y, hpy, hAy, _, _, hsny, g0y, g1y, g2y, g3y, g4y, g5y, g6y, g7y, g8y, g9y, g10y, g11y⟩ := SN.at hrow4 (k := 0) (by rw [M4.out]; omega)
        subst hA
        subst hAy
        obtain ⟨rfl, rfl⟩ : b' = bx' ∧ o' = ox' := by injection hAx with h; injection h with h1 h2; exact ⟨h1, h2⟩
        have P := Lib.hid hp
        have PX := Lib.hid hpx
        have PY := Lib.hid hpy
        simp only [Nat.zero_mul, Nat.add_zero, Nat.one_mul] at g0 g0x g0y
        clear hsn g1 g2 g3 g4 g5 g6 g7 g8 g9 g10 g11
        clear hsnx g1x g2x g3x g4x g5x g6x g7x g8x g9x g10x g11x
        clear hsny g1y g2y g3y g4y g5y g6y g7y g8y g9y g10y g11y
        clear hrow3 hrow4 hp hpx hAx hpy
        by_cases y1 : p.kind = 13
        · by_cases y2 : px.kind = 10
          · by_cases y3' : py.kind = 10
            · have Y1 := Lib.hid y1
              have Y2 := Lib.hid y2
              have Y3 := Lib.hid y3'
              rw [y1] at g0
              rw [y2] at g0x
              rw [y3'] at g0y
              clear y1 y2 y3'
              go_wp2
              go_ret
              exact .yes (fun _ => ⟨nofun, ALLk.out, by rw [← E0.out]; exact ALLe.out, Or.inr (Or.inr (Or.inr (Or.inr (Or.inr (Or.inr (Or.inr (⟨Or.inr (Or.inr rfl), p, px, two_of M3.out (fun _ => P.out) (fun _ => PX.out), Y1.out, Y2.out, Or.inr ⟨rfl, py, (by show ([e0] : List Nd) = [py]; rw [← E0.out]; exact one_of M4.out (fun _ => PY.out)), Y3.out⟩⟩)))))))⟩) HW.out
            · have e : (py.kind == 10) = false := by simpa using y3'
              rw [y1] at g0
              rw [y2] at g0x
              go_wp2
              go_ret
              exact .yes (fun hb => absurd hb (by simp)) HW.out
          · have e : (px.kind == 10) = false := by simpa using y2
            rw [y1] at g0
            go_wp2
            go_ret
            exact .yes (fun hb => absurd hb (by simp)) HW.out
        · have e : (p.kind == 13) = false := by simpa using y1
          go_wp2
          go_ret
          exact .yes (fun hb => absurd hb (by simp)) HW.out
      · have e : ((m3 : Int) == 2) = false := by simp; omega
        go_wp2
        go_ret
        exact .yes (fun hb => absurd hb (by simp)) HW.out
    exfalso
    have h := HBR.out
    simp [branchK, k9, k14, k18] at h
end Go.Proofs.YtiogfkpclkkoaaaGreat
