/-
  The walk of impl.list.
-/
import Derived.Test.YtiogfkpclkkoaaaGreatFactsR
set_option linter.unusedVariables false
set_option linter.unusedSimpArgs false
namespace Go.Proofs.YtiogfkpclkkoaaaGreat
open Go.RowKit

set_option maxHeartbeats 2000000 in
set_option maxRecDepth 100000 in
theorem list_step (B d : Nat) (ih : BuiltAt B d)
    (t v : ByteArray) (names : List ByteArray) (tru asg : Bool) (decl kids els : List Nd) (b3 : Bool) (num : Int) (ex : Bool) (w : World) (A1 A2 A3 A4 : Option Addr) (m1 m2 m4 c1 c2 c3 c4 : Nat)
    (h3 : Ino w B d (.slice A3 kids.length c3) kids) (s3 : Sms d kids) (p3 : ∀ p ∈ kids, Shp d p) (hB : B ≤ w.heap.size) :
    Calls Tryz.prog 27 #[.agg #[.int .i64 10, .string t, .string v, .slice A1 m1 c1, .bool tru, .bool asg, .slice A2 m2 c2, .slice A3 kids.length c3, .slice A4 m4 c4, .bool b3, .bool false, .bool false, .bool false, .bool false, .int .i64 0, .int .u64 0, .int .u64 0]] w
      (PipePost w B (d + 1) (.mk 10 t v names tru asg decl kids els b3 num ex)) := by
  have H3 := Lib.hid h3
  have IH := Lib.hid ih
  have S3 := Lib.hid s3
  have P3 := Lib.hid p3
  clear h3 ih s3 p3
  generalize hm3 : kids.length = m3 at *
  have M3 := Lib.hid hm3
  clear hm3
  go_enter Tryz.func27, Tryz.ntmps27
  go_wp2_with (first
    | (go_at_call 26; refine Calls.mono (several_step B d IH.out kids (.slice A3 m3 c3) _ ?_ S3.out P3.out ?_) ?_; exact Ino.later H3.out (below_new _ _); (simp only [World.size_alloc]; omega); intro e w1 hpost; obtain ⟨qA, qc, rfl, hrow, hb⟩ := hpost.use w.heap.size (by simp); rw [M3.out] at hrow ⊢; replace hrow := Lib.hid hrow; have q0 : w1.cell? ⟨w.heap.size, 0, none⟩ = some (.int .i64 10) := box_at hb 0; have q1 : w.heap.size < w1.heap.size := (by have := hb.size; simp only [World.size_alloc] at this; omega))
    | fail)
  go_region
  all_goals go_wp2
  go_ret2
  exact ⟨w1.heap.size, rfl, Pn.new (n := .mk 10 t v names tru asg decl kids els b3 num ex) (by omega) (heap_alloc_new w1 _) (.list rfl (hrow.out.later (below_new _ _).drew (Nat.le_refl _))), (below_trans (below_alloc hb) (below_new _ _)).drew⟩

end Go.Proofs.YtiogfkpclkkoaaaGreat
