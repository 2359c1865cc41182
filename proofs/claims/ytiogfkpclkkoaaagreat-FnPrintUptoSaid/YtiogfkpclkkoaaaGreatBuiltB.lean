/-
  The walk of impl.built at the kinds with kids. Printed by py/builtb.py.
-/
import Derived.Test.YtiogfkpclkkoaaaGreatBranched
set_option linter.unusedVariables false
set_option linter.unusedSimpArgs false
namespace Go.Proofs.YtiogfkpclkkoaaaGreat
open Go.RowKit

attribute [local go_sem ↓] ldN
attribute [local go_sem] run_ldN_new

set_option maxHeartbeats 2000000 in
set_option maxRecDepth 100000 in
theorem built_action (B d : Nat) (ih : PipeAt B d) (t v : ByteArray) (names : List ByteArray) (tru asg : Bool) (decl : List Nd) (p : Nd) (els : List Nd) (b3 : Bool) (num : Int) (ex : Bool) (w : World) (A1 A2 A3 A4 : Option Addr) (m2 m4 c1 c2 c3 c4 : Nat) (hB : B ≤ w.heap.size)
    (hn : Strs w (· < B) (.slice A1 names.length c1) names) (h3 : Ino w B d (.slice A3 1 c3) [p]) (sp : Sm d p) (qp : Shp d p) (kp : p.kind = 13) :
    Calls Tryz.prog 16 #[.agg #[.int .i64 2, .string t, .string v, .slice A1 names.length c1, .bool tru, .bool asg, .slice A2 m2 c2, .slice A3 1 c3, .slice A4 m4 c4, .bool b3, .bool false, .bool false, .bool false, .bool false, .int .i64 0, .int .u64 0, .int .u64 0]] w
      (BuiltPost w B (d + 1) (.mk 2 t v names tru asg decl [p] els b3 num ex)) := by
  have IH := Lib.hid ih
  have H3 := Lib.hid h3
  clear ih h3
  generalize names.length = m1 at *
  go_enter Tryz.func16, Tryz.ntmps16
  go_wp2_with (go_at_call 24; refine Calls.mono (piped_one B d IH.out p A3 c3 _ ?_ sp qp kp ?_) ?_; exact Ino.later H3.out (below_new _ _); (simp only [World.size_alloc]; omega); intro e w1 hpost; obtain ⟨bq, rfl, hq, hb⟩ := hpost.use w.heap.size (by simp); replace hq := Lib.hid hq)
  go_ret2
  exact ⟨w1.heap.size, rfl, Pn.new (n := .mk 2 t v names tru asg decl [p] els b3 num ex) (by have := hb.size; simp only [World.size_alloc] at this; omega) (heap_alloc_new w1 _) (.action rfl rfl kp (hq.out.later (below_new _ _) (Nat.le_refl _))), below_trans (below_alloc hb) (below_new _ _)⟩

set_option maxHeartbeats 2000000 in
set_option maxRecDepth 100000 in
theorem built_tpl1 (B d : Nat) (ih : PipeAt B d) (t v : ByteArray) (names : List ByteArray) (tru asg : Bool) (decl : List Nd) (p : Nd) (els : List Nd) (b3 : Bool) (num : Int) (ex : Bool) (w : World) (A1 A2 A3 A4 : Option Addr) (m2 m4 c1 c2 c3 c4 : Nat) (hB : B ≤ w.heap.size)
    (hn : Strs w (· < B) (.slice A1 names.length c1) names) (h3 : Ino w B d (.slice A3 1 c3) [p]) (sp : Sm d p) (qp : Shp d p) (kp : p.kind = 13) :
    Calls Tryz.prog 16 #[.agg #[.int .i64 16, .string t, .string v, .slice A1 names.length c1, .bool tru, .bool asg, .slice A2 m2 c2, .slice A3 1 c3, .slice A4 m4 c4, .bool b3, .bool false, .bool false, .bool false, .bool false, .int .i64 0, .int .u64 0, .int .u64 0]] w
      (BuiltPost w B (d + 1) (.mk 16 t v names tru asg decl [p] els b3 num ex)) := by
  have IH := Lib.hid ih
  have H3 := Lib.hid h3
  clear ih h3
  generalize names.length = m1 at *
  go_enter Tryz.func16, Tryz.ntmps16
  go_wp2_with (go_at_call 24; refine Calls.mono (piped_one B d IH.out p A3 c3 _ ?_ sp qp kp ?_) ?_; exact Ino.later H3.out (below_new _ _); (simp only [World.size_alloc]; omega); intro e w1 hpost; obtain ⟨bq, rfl, hq, hb⟩ := hpost.use w.heap.size (by simp); replace hq := Lib.hid hq; have q0 : w1.cell? ⟨w.heap.size, 1, none⟩ = some (.string t) := box_at hb 1)
  go_ret2
  exact ⟨w1.heap.size, rfl, Pn.new (n := .mk 16 t v names tru asg decl [p] els b3 num ex) (by have := hb.size; simp only [World.size_alloc] at this; omega) (heap_alloc_new w1 _) (.tpl1 rfl rfl kp (hq.out.later (below_new _ _) (Nat.le_refl _))), below_trans (below_alloc hb) (below_new _ _)⟩

set_option maxHeartbeats 2000000 in
set_option maxRecDepth 100000 in
theorem built_tpl0 (B d : Nat)  (t v : ByteArray) (names : List ByteArray) (tru asg : Bool) (decl : List Nd) (els : List Nd) (b3 : Bool) (num : Int) (ex : Bool) (w : World) (A1 A2 A3 A4 : Option Addr) (m2 m4 c1 c2 c3 c4 : Nat) (hB : B ≤ w.heap.size)
    (hn : Strs w (· < B) (.slice A1 names.length c1) names) :
    Calls Tryz.prog 16 #[.agg #[.int .i64 16, .string t, .string v, .slice A1 names.length c1, .bool tru, .bool asg, .slice A2 m2 c2, .slice A3 0 c3, .slice A4 m4 c4, .bool b3, .bool false, .bool false, .bool false, .bool false, .int .i64 0, .int .u64 0, .int .u64 0]] w
      (BuiltPost w B (d + 1) (.mk 16 t v names tru asg decl [] els b3 num ex)) := by
  clear hn
  generalize names.length = m1 at *
  go_enter Tryz.func16, Tryz.ntmps16
  go_wp2_with (go_at_call 24; refine Calls.mono (piped_nil A3 c3 _) ?_; rintro e w1 ⟨rfl, rfl⟩)
  go_ret2
  exact ⟨w.heap.size + 1, rfl, Pn.new (n := .mk 16 t v names tru asg decl [] els b3 num ex) (by omega) (heap_alloc2 w _ _) (.tpl0 rfl rfl), below_trans (below_new _ _) (below_new _ _)⟩

set_option maxHeartbeats 2000000 in
set_option maxRecDepth 100000 in
theorem built_command (B d : Nat) (ih : BuiltAt B d) (t v : ByteArray) (names : List ByteArray) (tru asg : Bool) (decl : List Nd) (kids els : List Nd) (b3 : Bool) (num : Int) (ex : Bool) (w : World) (A1 A2 A3 A4 : Option Addr) (m2 m4 c1 c2 c3 c4 : Nat) (hB : B ≤ w.heap.size)
    (hn : Strs w (· < B) (.slice A1 names.length c1) names) (h3 : Ino w B d (.slice A3 kids.length c3) kids) (s3 : Sms d kids) (p3 : ∀ p ∈ kids, Shp d p) :
    Calls Tryz.prog 16 #[.agg #[.int .i64 5, .string t, .string v, .slice A1 names.length c1, .bool tru, .bool asg, .slice A2 m2 c2, .slice A3 kids.length c3, .slice A4 m4 c4, .bool b3, .bool false, .bool false, .bool false, .bool false, .int .i64 0, .int .u64 0, .int .u64 0]] w
      (BuiltPost w B (d + 1) (.mk 5 t v names tru asg decl kids els b3 num ex)) := by
  have H3 := Lib.hid h3
  have IH := Lib.hid ih
  have S3 := Lib.hid s3
  have P3 := Lib.hid p3
  clear h3 ih s3 p3
  generalize hm3 : kids.length = m3 at *
  have M3 := Lib.hid hm3
  clear hm3
  generalize names.length = m1 at *
  go_enter Tryz.func16, Tryz.ntmps16
  go_wp2_with (go_at_call 26; refine Calls.mono (several_step B d IH.out kids (.slice A3 m3 c3) _ ?_ S3.out P3.out ?_) ?_; exact Ino.later H3.out (below_new _ _); (simp only [World.size_alloc]; omega); intro e w1 hpost; obtain ⟨qA, qc, rfl, hrow, hb⟩ := hpost.use w.heap.size (by simp); rw [M3.out] at hrow ⊢; replace hrow := Lib.hid hrow)
  go_ret2
  exact ⟨w1.heap.size, rfl, Pn.new (n := .mk 5 t v names tru asg decl kids els b3 num ex) (by have := hb.size; simp only [World.size_alloc] at this; omega) (heap_alloc_new w1 _) (.command rfl (hrow.out.later (below_new _ _) (Nat.le_refl _))), below_trans (below_alloc hb) (below_new _ _)⟩

set_option maxHeartbeats 2000000 in
set_option maxRecDepth 100000 in
theorem built_pipe (B d : Nat) (ih : PipeAt B (d + 1)) (t v : ByteArray) (names : List ByteArray) (tru asg : Bool) (decl : List Nd) (kids els : List Nd) (b3 : Bool) (num : Int) (ex : Bool) (w : World) (A1 A2 A3 A4 : Option Addr) (m2 m4 c1 c2 c3 c4 : Nat) (hB : B ≤ w.heap.size)
    (hn : Strs w (· < B) (.slice A1 names.length c1) names) (h : IN w (· < B) (d + 1) [.int .i64 13, .string t, .string v, .slice A1 names.length c1, .bool tru, .bool asg, .slice A2 decl.length c2, .slice A3 kids.length c3, .slice A4 els.length c4, .bool b3, .bool false, .bool false, .bool false, .bool false, .int .i64 0, .int .u64 0, .int .u64 0] (.mk 13 t v names tru asg decl kids els b3 num ex)) (hs : Sm (d + 1) (.mk 13 t v names tru asg decl kids els b3 num ex)) (hp : Shp (d + 1) (.mk 13 t v names tru asg decl kids els b3 num ex)) :
    Calls Tryz.prog 16 #[.agg #[.int .i64 13, .string t, .string v, .slice A1 names.length c1, .bool tru, .bool asg, .slice A2 decl.length c2, .slice A3 kids.length c3, .slice A4 els.length c4, .bool b3, .bool false, .bool false, .bool false, .bool false, .int .i64 0, .int .u64 0, .int .u64 0]] w
      (BuiltPost w B (d + 1) (.mk 13 t v names tru asg decl kids els b3 num ex)) := by
  have H := Lib.hid h
  have IH := Lib.hid ih
  have HS := Lib.hid hs
  have HP := Lib.hid hp
  clear ih h hs hp
  generalize names.length = m1 at *
  generalize decl.length = m2 at *
  generalize kids.length = m3 at *
  generalize els.length = m4 at *
  go_enter Tryz.func16, Tryz.ntmps16
  go_wp2_with (go_at_call 25; refine Calls.mono (IH.out [_, _, _, _, _, _, _, _, _, _, _, _, _, _, _, _, _] (.mk 13 t v names tru asg decl kids els b3 num ex) _ ?_ HS.out HP.out rfl ?_) ?_; exact IN.mono (fun _ h _ => h) (Keeps.of_below (below_new _ _)) _ _ _ H.out; (simp only [World.size_alloc]; omega); intro e w1 hpost; obtain ⟨bq, rfl, hq, hb⟩ := hpost.use w.heap.size (by simp); replace hq := Lib.hid hq)
  go_ret2
  exact ⟨bq, rfl, hq.out, below_alloc hb⟩

set_option maxHeartbeats 2000000 in
set_option maxRecDepth 100000 in
theorem built_list (B d : Nat) (ih : ListAt B (d + 1)) (t v : ByteArray) (names : List ByteArray) (tru asg : Bool) (decl : List Nd) (kids els : List Nd) (b3 : Bool) (num : Int) (ex : Bool) (w : World) (A1 A2 A3 A4 : Option Addr) (m2 m4 c1 c2 c3 c4 : Nat) (hB : B ≤ w.heap.size)
    (hn : Strs w (· < B) (.slice A1 names.length c1) names) (h : IN w (· < B) (d + 1) [.int .i64 10, .string t, .string v, .slice A1 names.length c1, .bool tru, .bool asg, .slice A2 decl.length c2, .slice A3 kids.length c3, .slice A4 els.length c4, .bool b3, .bool false, .bool false, .bool false, .bool false, .int .i64 0, .int .u64 0, .int .u64 0] (.mk 10 t v names tru asg decl kids els b3 num ex)) (hs : Sm (d + 1) (.mk 10 t v names tru asg decl kids els b3 num ex)) (hp : Shp (d + 1) (.mk 10 t v names tru asg decl kids els b3 num ex)) :
    Calls Tryz.prog 16 #[.agg #[.int .i64 10, .string t, .string v, .slice A1 names.length c1, .bool tru, .bool asg, .slice A2 decl.length c2, .slice A3 kids.length c3, .slice A4 els.length c4, .bool b3, .bool false, .bool false, .bool false, .bool false, .int .i64 0, .int .u64 0, .int .u64 0]] w
      (BuiltPost w B (d + 1) (.mk 10 t v names tru asg decl kids els b3 num ex)) := by
  have H := Lib.hid h
  have IH := Lib.hid ih
  have HS := Lib.hid hs
  have HP := Lib.hid hp
  clear ih h hs hp
  generalize names.length = m1 at *
  generalize decl.length = m2 at *
  generalize kids.length = m3 at *
  generalize els.length = m4 at *
  go_enter Tryz.func16, Tryz.ntmps16
  go_wp2_with (go_at_call 27; refine Calls.mono (IH.out [_, _, _, _, _, _, _, _, _, _, _, _, _, _, _, _, _] (.mk 10 t v names tru asg decl kids els b3 num ex) _ ?_ HS.out HP.out rfl ?_) ?_; exact IN.mono (fun _ h _ => h) (Keeps.of_below (below_new _ _)) _ _ _ H.out; (simp only [World.size_alloc]; omega); intro e w1 hpost; obtain ⟨bq, rfl, hq, hb⟩ := hpost.use w.heap.size (by simp); replace hq := Lib.hid hq)
  go_ret2
  exact ⟨bq, rfl, hq.out, below_alloc hb⟩

end Go.Proofs.YtiogfkpclkkoaaaGreat
