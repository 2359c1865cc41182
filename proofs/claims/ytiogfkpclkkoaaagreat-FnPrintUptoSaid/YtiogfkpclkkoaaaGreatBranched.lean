/-
  The walk of impl.branched.
-/
import Derived.Test.YtiogfkpclkkoaaaGreatFactsW
set_option linter.unusedVariables false
set_option linter.unusedSimpArgs false
namespace Go.Proofs.YtiogfkpclkkoaaaGreat
open Go.RowKit

attribute [local go_sem ↓] ldN ldB stB
attribute [local go_sem] run_stB_new

set_option maxHeartbeats 2000000 in
set_option maxRecDepth 100000 in
theorem branched1 (B d : Nat) (ihp : PipeAt B d) (ihl : ListAt B d) (ty : Int)
    (k : Int) (t v : ByteArray) (tru asg : Bool) (p l x : Nd) (w : World) (A1 A2 A3 A4 : Option Addr) (m1 m2 c1 c2 c3 c4 : Nat)
    (h3 : Ino w B d (.slice A3 2 c3) [p, l]) (h4 : Ino w B d (.slice A4 1 c4) [x]) (sp : Sm d p) (sl : Sm d l) (sx : Sm d x) (qp : Shp d p) (ql : Shp d l) (qx : Shp d x) (kp : p.kind = 13) (kl : l.kind = 10) (kx : x.kind = 10) (hB : B ≤ w.heap.size) :
    Calls Tryz.prog 28 #[.int .i64 ty, .agg #[.int .i64 k, .string t, .string v, .slice A1 m1 c1, .bool tru, .bool asg, .slice A2 m2 c2, .slice A3 2 c3, .slice A4 1 c4, .bool true, .bool false, .bool false, .bool false, .bool false, .int .i64 0, .int .u64 0, .int .u64 0]] w
      (BranchedPost w B d ty p l true [x]) := by
  obtain ⟨p', b', o', C1, e1, C2, e2, C3, e3, C4, e4, hpp, rfl, hsnp, hldp⟩ := IN.lds (l := [p, l]) h3 (k := 0) (by simp)
  obtain rfl : p' = p := hpp.symm
  obtain ⟨l', b2, o2, D1, f1, D2, f2, D3, f3, D4, f4, hll, hA3, hsnl, hldl⟩ := IN.lds (l := [p', l]) h3 (k := 1) (by simp)
  obtain rfl : l' = l := hll.symm
  obtain ⟨rfl, rfl⟩ : b' = b2 ∧ o' = o2 := by simpa using hA3
  obtain ⟨x', b4, o4, E1, g1, E2, g2, E3, g3, E4, g4, hxx, rfl, hsnx, hldx⟩ := IN.lds (l := [x]) h4 (k := 0) (by simp)
  obtain rfl : x' = x := hxx.symm
  rw [kp] at hldp hsnp
  rw [kl] at hldl hsnl
  rw [kx] at hldx hsnx
  simp only [Nat.zero_mul, Nat.add_zero, Nat.one_mul] at hldp hldl hldx
  have IHP := Lib.hid ihp
  have IHL := Lib.hid ihl
  have NP := Lib.hid hsnp
  have NL := Lib.hid hsnl
  have NX := Lib.hid hsnx
  have LP := Lib.hid hldp
  have LL := Lib.hid hldl
  have LX := Lib.hid hldx
  have hp0 : ∀ x1 x2 x3, (((w.alloc x1).alloc x2).alloc x3).cell? ⟨b', o', none⟩ = some (.int .i64 13) := fun x1 x2 x3 => (hldp _ (below_trans (below_trans (below_new _ _) (below_new _ _)) (below_new _ _))).1
  have hp1 := fun x1 x2 x3 => (hldp (((w.alloc x1).alloc x2).alloc x3) (below_trans (below_trans (below_new _ _) (below_new _ _)) (below_new _ _))).2
  clear ihp ihl hsnp hsnl hsnx hldp hldl hldx h3 h4 hpp hll hxx hA3
  generalize p'.names.length = l11 at *
  generalize p'.decl.length = l12 at *
  generalize p'.kids.length = l13 at *
  generalize p'.els.length = l14 at *
  generalize l'.names.length = l21 at *
  generalize l'.decl.length = l22 at *
  generalize l'.kids.length = l23 at *
  generalize l'.els.length = l24 at *
  generalize x'.names.length = l31 at *
  generalize x'.decl.length = l32 at *
  generalize x'.kids.length = l33 at *
  generalize x'.els.length = l34 at *
  go_enter Tryz.func28, Tryz.ntmps28
  have bg0 := BG.init w #[.int .i64 k, .string t, .string v, .slice A1 m1 c1, .bool tru, .bool asg, .slice A2 m2 c2, .slice (some ⟨b', o', none⟩) 2 c3, .slice (some ⟨b4, o4, none⟩) 1 c4, .bool true, .bool false, .bool false, .bool false, .bool false, .int .i64 0, .int .u64 0, .int .u64 0] #[.int .i64 0, .int .i64 0, .pointer none, .int .i64 0, .pointer none, .pointer none, .pointer none] #[.int .i64 ty, .int .i64 0, .pointer none, .int .i64 0, .pointer none, .pointer none, .pointer none]
  have BG0 := Lib.hid bg0
  clear bg0
  go_wp2_with (first
    | (go_at_call 25; refine Calls.mono (IHP.out [_, _, _, _, _, _, _, _, _, _, _, _, _, _, _, _, _] p' _ ?_ sp qp kp ?_) ?_; exact IN.mono (fun _ h _ => h) (Keeps.of_below BG0.out.1) _ _ _ NP.out; exact Nat.le_trans hB BG0.out.1.size; intro e w1 hpost; obtain ⟨bp, rfl, hqp, hb1⟩ := hpost.use (w.heap.size + 3) BG0.out.three; have bg1 := BG0.out.later hb1; have a1 := bg1.fr2 4; have a2 := bg1.at2 4; have bg2 := bg1.set 4 (.pointer (some ⟨bp, 0, none⟩)); have a3 := bg2.at0 7; have a4 := (LL.out _ bg2.1).2; have hqp2 := hqp.setCell (i := 4) (v := .pointer (some ⟨bp, 0, none⟩)) (g := w.heap.size + 2) (by omega) (by omega); have BG2 := Lib.hid bg2; have QP2 := Lib.hid hqp2; clear bg1 bg2 hqp hqp2 hb1)
    | (go_at_call 27; refine Calls.mono (IHL.out [_, _, _, _, _, _, _, _, _, _, _, _, _, _, _, _, _] l' _ ?_ sl ql kl ?_) ?_; exact IN.mono (fun _ h _ => h) (Keeps.of_below BG2.out.1) _ _ _ NL.out; exact Nat.le_trans hB BG2.out.1.size; intro e w2 hpost; obtain ⟨bl, rfl, hql, hb2⟩ := hpost.use (w.heap.size + 3) BG2.out.three; have bg3 := BG2.out.later hb2; have a5 := bg3.fr2 5; have a6 := bg3.at2 5; have bg4 := bg3.set 5 (.pointer (some ⟨bl, 0, none⟩)); have a7 := bg4.at0 8; have a8 := bg4.at0 9; have a9 := (LX.out _ bg4.1).2; have hqp3 := (QP2.out.later hb2 (Nat.le_refl _)).setCell (i := 5) (v := .pointer (some ⟨bl, 0, none⟩)) (g := w.heap.size + 2) (by omega) (by omega); have hql3 := hql.setCell (i := 5) (v := .pointer (some ⟨bl, 0, none⟩)) (g := w.heap.size + 2) (by omega) (by omega); have BG4 := Lib.hid bg4; have QP3 := Lib.hid hqp3; have QL3 := Lib.hid hql3; clear bg3 bg4 hql hqp3 hql3 hb2)
    | (go_at_call 27; refine Calls.mono (IHL.out [_, _, _, _, _, _, _, _, _, _, _, _, _, _, _, _, _] x' _ ?_ sx qx kx ?_) ?_; exact IN.mono (fun _ h _ => h) (Keeps.of_below BG4.out.1) _ _ _ NX.out; exact Nat.le_trans hB BG4.out.1.size; intro e w3 hpost; obtain ⟨be, rfl, hqx, hb3⟩ := hpost.use (w.heap.size + 3) BG4.out.three; have bg5 := BG4.out.later hb3; have d1 := bg5.fr2 6; have d2 := bg5.at2 6; have bg6 : BG w (w3.setCell ⟨w.heap.size + 2, 6, none⟩ (.pointer (some ⟨be, 0, none⟩))) _ _ #[.int .i64 ty, .int .i64 0, .pointer none, .int .i64 0, .pointer (some ⟨bp, 0, none⟩), .pointer (some ⟨bl, 0, none⟩), .pointer (some ⟨be, 0, none⟩)] := bg5.set 6 (.pointer (some ⟨be, 0, none⟩)); have d3 := bg6.ld rfl; have d4 := bg6.st #[.int .i64 ty, .int .i64 0, .pointer none, .int .i64 0, .pointer (some ⟨bp, 0, none⟩), .pointer (some ⟨bl, 0, none⟩), .pointer (some ⟨be, 0, none⟩)] rfl rfl (by simp [Value.oneCell']); have hqp4 := (QP3.out.later hb3 (Nat.le_refl _)).setCell (i := 6) (v := .pointer (some ⟨be, 0, none⟩)) (g := w.heap.size + 2) (by omega) (by omega); have hql4 := (QL3.out.later hb3 (Nat.le_refl _)).setCell (i := 6) (v := .pointer (some ⟨be, 0, none⟩)) (g := w.heap.size + 2) (by omega) (by omega); have hqx4 := hqx.setCell (i := 6) (v := .pointer (some ⟨be, 0, none⟩)) (g := w.heap.size + 2) (by omega) (by omega); have BG6 := Lib.hid bg6; have QP4 := Lib.hid hqp4; have QL4 := Lib.hid hql4; have QX4 := Lib.hid hqx4; clear bg5 bg6 hqp4 hql4 hqx hqx4 hb3))
  have hz : ∃ old, (w3.setCell ⟨w.heap.size + 2, 6, none⟩ (.pointer (some ⟨be, 0, none⟩))).heap[w.heap.size + 1]? = some (.cells old 113 (0, 0)) ∧ old.size = 7 := ⟨_, BG6.out.2.2.1, rfl⟩
  refine bodyPost_ret (v := .tuple #[.agg #[.int .i64 ty, .int .i64 0, .pointer none, .int .i64 0, .pointer (some ⟨bp, 0, none⟩), .pointer (some ⟨bl, 0, none⟩), .pointer (some ⟨be, 0, none⟩)], .bool true]) (by simp [results, Tryz.results28, go_sem, cell_setRow hz]) rfl ?_
  exact ⟨bp, bl, _, rfl, (QP4.out.setRow (g := w.heap.size + 1) (by omega) (by omega)).later (Below.refl _ _) (by omega), (QL4.out.setRow (g := w.heap.size + 1) (by omega) (by omega)).later (Below.refl _ _) (by omega),
    Or.inr ⟨x', be, rfl, rfl, rfl, (QX4.out.setRow (g := w.heap.size + 1) (by omega) (by omega)).later (Below.refl _ _) (by omega)⟩, Below.setRow BG6.out.1 (by omega) _⟩

set_option maxHeartbeats 2000000 in
set_option maxRecDepth 100000 in
theorem branched0 (B d : Nat) (ihp : PipeAt B d) (ihl : ListAt B d) (ty : Int)
    (k : Int) (t v : ByteArray) (tru asg : Bool) (p l : Nd) (w : World) (A1 A2 A3 A4 : Option Addr) (m1 m2 c1 c2 c3 c4 : Nat)
    (h3 : Ino w B d (.slice A3 2 c3) [p, l]) (sp : Sm d p) (sl : Sm d l) (qp : Shp d p) (ql : Shp d l) (kp : p.kind = 13) (kl : l.kind = 10) (hB : B ≤ w.heap.size) :
    Calls Tryz.prog 28 #[.int .i64 ty, .agg #[.int .i64 k, .string t, .string v, .slice A1 m1 c1, .bool tru, .bool asg, .slice A2 m2 c2, .slice A3 2 c3, .slice A4 0 c4, .bool false, .bool false, .bool false, .bool false, .bool false, .int .i64 0, .int .u64 0, .int .u64 0]] w
      (BranchedPost w B d ty p l false []) := by
  obtain ⟨p', b', o', C1, e1, C2, e2, C3, e3, C4, e4, hpp, rfl, hsnp, hldp⟩ := IN.lds (l := [p, l]) h3 (k := 0) (by simp)
  obtain rfl : p' = p := hpp.symm
  obtain ⟨l', b2, o2, D1, f1, D2, f2, D3, f3, D4, f4, hll, hA3, hsnl, hldl⟩ := IN.lds (l := [p', l]) h3 (k := 1) (by simp)
  obtain rfl : l' = l := hll.symm
  obtain ⟨rfl, rfl⟩ : b' = b2 ∧ o' = o2 := by simpa using hA3
  rw [kp] at hldp hsnp
  rw [kl] at hldl hsnl
  simp only [Nat.zero_mul, Nat.add_zero, Nat.one_mul] at hldp hldl
  have IHP := Lib.hid ihp
  have IHL := Lib.hid ihl
  have NP := Lib.hid hsnp
  have NL := Lib.hid hsnl
  have LP := Lib.hid hldp
  have LL := Lib.hid hldl
  have hp0 : ∀ x1 x2 x3, (((w.alloc x1).alloc x2).alloc x3).cell? ⟨b', o', none⟩ = some (.int .i64 13) := fun x1 x2 x3 => (hldp _ (below_trans (below_trans (below_new _ _) (below_new _ _)) (below_new _ _))).1
  have hp1 := fun x1 x2 x3 => (hldp (((w.alloc x1).alloc x2).alloc x3) (below_trans (below_trans (below_new _ _) (below_new _ _)) (below_new _ _))).2
  clear ihp ihl hsnp hsnl hldp hldl h3 hpp hll hA3
  generalize p'.names.length = l11 at *
  generalize p'.decl.length = l12 at *
  generalize p'.kids.length = l13 at *
  generalize p'.els.length = l14 at *
  generalize l'.names.length = l21 at *
  generalize l'.decl.length = l22 at *
  generalize l'.kids.length = l23 at *
  generalize l'.els.length = l24 at *
  go_enter Tryz.func28, Tryz.ntmps28
  have bg0 := BG.init w #[.int .i64 k, .string t, .string v, .slice A1 m1 c1, .bool tru, .bool asg, .slice A2 m2 c2, .slice (some ⟨b', o', none⟩) 2 c3, .slice A4 0 c4, .bool false, .bool false, .bool false, .bool false, .bool false, .int .i64 0, .int .u64 0, .int .u64 0] #[.int .i64 0, .int .i64 0, .pointer none, .int .i64 0, .pointer none, .pointer none, .pointer none] #[.int .i64 ty, .int .i64 0, .pointer none, .int .i64 0, .pointer none, .pointer none, .pointer none]
  have BG0 := Lib.hid bg0
  clear bg0
  go_wp2_with (first
    | (go_at_call 25; refine Calls.mono (IHP.out [_, _, _, _, _, _, _, _, _, _, _, _, _, _, _, _, _] p' _ ?_ sp qp kp ?_) ?_; exact IN.mono (fun _ h _ => h) (Keeps.of_below BG0.out.1) _ _ _ NP.out; exact Nat.le_trans hB BG0.out.1.size; intro e w1 hpost; obtain ⟨bp, rfl, hqp, hb1⟩ := hpost.use (w.heap.size + 3) BG0.out.three; have bg1 := BG0.out.later hb1; have a1 := bg1.fr2 4; have a2 := bg1.at2 4; have bg2 := bg1.set 4 (.pointer (some ⟨bp, 0, none⟩)); have a3 := bg2.at0 7; have a4 := (LL.out _ bg2.1).2; have hqp2 := hqp.setCell (i := 4) (v := .pointer (some ⟨bp, 0, none⟩)) (g := w.heap.size + 2) (by omega) (by omega); have BG2 := Lib.hid bg2; have QP2 := Lib.hid hqp2; clear bg1 bg2 hqp hqp2 hb1)
    | (go_at_call 27; refine Calls.mono (IHL.out [_, _, _, _, _, _, _, _, _, _, _, _, _, _, _, _, _] l' _ ?_ sl ql kl ?_) ?_; exact IN.mono (fun _ h _ => h) (Keeps.of_below BG2.out.1) _ _ _ NL.out; exact Nat.le_trans hB BG2.out.1.size; intro e w2 hpost; obtain ⟨bl, rfl, hql, hb2⟩ := hpost.use (w.heap.size + 3) BG2.out.three; have bg3 := BG2.out.later hb2; have a5 := bg3.fr2 5; have a6 := bg3.at2 5; have bg4 : BG w (w2.setCell ⟨w.heap.size + 2, 5, none⟩ (.pointer (some ⟨bl, 0, none⟩))) _ _ #[.int .i64 ty, .int .i64 0, .pointer none, .int .i64 0, .pointer (some ⟨bp, 0, none⟩), .pointer (some ⟨bl, 0, none⟩), .pointer none] := bg3.set 5 (.pointer (some ⟨bl, 0, none⟩)); have a8 : (w2.setCell ⟨w.heap.size + 2, 5, none⟩ (.pointer (some ⟨bl, 0, none⟩))).cell? ⟨w.heap.size, 9, none⟩ = some (.bool false) := bg4.at0 9; have d3 := bg4.ld rfl; have d4 := bg4.st #[.int .i64 ty, .int .i64 0, .pointer none, .int .i64 0, .pointer (some ⟨bp, 0, none⟩), .pointer (some ⟨bl, 0, none⟩), .pointer none] rfl rfl (by simp [Value.oneCell']); have hqp3 := (QP2.out.later hb2 (Nat.le_refl _)).setCell (i := 5) (v := .pointer (some ⟨bl, 0, none⟩)) (g := w.heap.size + 2) (by omega) (by omega); have hql3 := hql.setCell (i := 5) (v := .pointer (some ⟨bl, 0, none⟩)) (g := w.heap.size + 2) (by omega) (by omega); have BG4 := Lib.hid bg4; have QP3 := Lib.hid hqp3; have QL3 := Lib.hid hql3; clear bg3 bg4 hql hqp3 hql3 hb2))
  have hz : ∃ old, (w2.setCell ⟨w.heap.size + 2, 5, none⟩ (.pointer (some ⟨bl, 0, none⟩))).heap[w.heap.size + 1]? = some (.cells old 113 (0, 0)) ∧ old.size = 7 := ⟨_, BG4.out.2.2.1, rfl⟩
  refine bodyPost_ret (v := .tuple #[.agg #[.int .i64 ty, .int .i64 0, .pointer none, .int .i64 0, .pointer (some ⟨bp, 0, none⟩), .pointer (some ⟨bl, 0, none⟩), .pointer none], .bool true]) (by simp [results, Tryz.results28, go_sem, cell_setRow hz]) rfl ?_
  exact ⟨bp, bl, _, rfl, (QP3.out.setRow (g := w.heap.size + 1) (by omega) (by omega)).later (Below.refl _ _) (by omega), (QL3.out.setRow (g := w.heap.size + 1) (by omega) (by omega)).later (Below.refl _ _) (by omega),
    Or.inl ⟨rfl, rfl⟩, Below.setRow BG4.out.1 (by omega) _⟩

end Go.Proofs.YtiogfkpclkkoaaaGreat
