/-
  The walk of impl.built at chains and branches. Printed by py/builtc.py.
-/
import Derived.Test.YtiogfkpclkkoaaaGreatBuiltB
set_option linter.unusedVariables false
set_option linter.unusedSimpArgs false
namespace Go.Proofs.YtiogfkpclkkoaaaGreat
open Go.RowKit

attribute [local go_sem ↓] ldN ldB stB
attribute [local go_sem] run_ldN_new run_stB_new run_ldB_new

set_option maxHeartbeats 2000000 in
set_option maxRecDepth 100000 in
theorem built_chain (B d : Nat) (ih : BuiltAt B d) (t v : ByteArray) (names : List ByteArray) (tru asg : Bool) (decl : List Nd) (p : Nd) (els : List Nd) (b3 : Bool) (num : Int) (ex : Bool) (w : World) (A1 A2 A3 A4 : Option Addr) (m2 m4 c1 c2 c3 c4 : Nat) (hB : B ≤ w.heap.size)
    (hn : Strs w (· < B) (.slice A1 names.length c1) names) (h3 : Ino w B d (.slice A3 1 c3) [p]) (sp : Sms d [p]) (qp : ∀ x ∈ [p], Shp d x) :
    Calls Tryz.prog 16 #[.agg #[.int .i64 4, .string t, .string v, .slice A1 names.length c1, .bool tru, .bool asg, .slice A2 m2 c2, .slice A3 1 c3, .slice A4 m4 c4, .bool b3, .bool false, .bool false, .bool false, .bool false, .int .i64 0, .int .u64 0, .int .u64 0]] w
      (BuiltPost w B (d + 1) (.mk 4 t v names tru asg decl [p] els b3 num ex)) := by
  have HN := Lib.hid hn
  have IH := Lib.hid ih
  have H3 := Lib.hid h3
  have SP := Lib.hid sp
  have QP := Lib.hid qp
  clear hn ih h3 sp qp
  generalize hm1 : names.length = m1 at *
  have M1 := Lib.hid hm1
  clear hm1
  go_enter Tryz.func16, Tryz.ntmps16
  go_wp2_with (go_at_call 26; refine Calls.mono (several_step B d IH.out [p] (.slice A3 1 c3) _ ?_ SP.out QP.out ?_) ?_; exact Ino.later H3.out (below_new _ _); (simp only [World.size_alloc]; omega); intro e w1 hpost; obtain ⟨g, qc, T, bq, rfl, hT, hx, hq, hb, hx0⟩ := hpost.one w.heap.size (by simp); replace hq := Lib.hid hq; replace hT := Lib.hid hT; have q0 : w1.cell? ⟨w.heap.size, 3, none⟩ = some (.slice A1 m1 c1) := box_at hb 3; have q1 : w.heap.size < w1.heap.size := (by have := hb.size; simp only [World.size_alloc] at this; omega))
  go_region
  all_goals go_wp2
  go_ret2
  have hbody : PBody (w1.alloc (.cells #[.int .i64 3, .int .i64 0, .pointer none, .iface T (.pointer (some ⟨bq, 0, none⟩)), .slice A1 m1 c1] 111)).drew (OldNew B w.heap.size) (.pointer none) (PN (w1.alloc (.cells #[.int .i64 3, .int .i64 0, .pointer none, .iface T (.pointer (some ⟨bq, 0, none⟩)), .slice A1 m1 c1] 111)).drew w.heap.size (OldNew B w.heap.size) TrNil d) (.mk 4 t v names tru asg decl [p] els b3 num ex) 111 #[.int .i64 3, .int .i64 0, .pointer none, .iface T (.pointer (some ⟨bq, 0, none⟩)), .slice A1 m1 c1] := by
    have hb2 := (below_trans (below_alloc hb) (below_new w1 (.cells #[.int .i64 3, .int .i64 0, .pointer none, .iface T (.pointer (some ⟨bq, 0, none⟩)), .slice A1 m1 c1] 111))).drew
    have hs := Strs.toNew HN.out hb2
    rw [← hT.out]
    exact .chain rfl rfl (by rw [hT.out]; exact hq.out.later (below_new _ _).drew (Nat.le_refl _)) (by rw [hT.out]; exact hs)
  exact ⟨w1.heap.size, rfl, Pn.new (n := .mk 4 t v names tru asg decl [p] els b3 num ex) (by omega) (heap_alloc_new w1 _) hbody, (below_trans (below_alloc hb) (below_new _ _)).drew⟩

set_option maxHeartbeats 2000000 in
set_option maxRecDepth 100000 in
theorem built_if0 (B d : Nat) (ihp : PipeAt B d) (ihl : ListAt B d) (t v : ByteArray) (names : List ByteArray) (tru asg : Bool) (decl : List Nd) (p l : Nd) (num : Int) (ex : Bool) (w : World) (A1 A2 A3 A4 : Option Addr) (m2 c1 c2 c3 c4 : Nat) (hB : B ≤ w.heap.size)
    (hn : Strs w (· < B) (.slice A1 names.length c1) names) (h3 : Ino w B d (.slice A3 2 c3) [p, l]) (sp : Sm d p) (sl : Sm d l) (qp : Shp d p) (ql : Shp d l) (kp : p.kind = 13) (kl : l.kind = 10) :
    Calls Tryz.prog 16 #[.agg #[.int .i64 9, .string t, .string v, .slice A1 names.length c1, .bool tru, .bool asg, .slice A2 m2 c2, .slice A3 2 c3, .slice A4 0 c4, .bool false, .bool false, .bool false, .bool false, .bool false, .int .i64 0, .int .u64 0, .int .u64 0]] w
      (BuiltPost w B (d + 1) (.mk 9 t v names tru asg decl [p, l] [] false num ex)) := by
  have IHP := Lib.hid ihp
  have IHL := Lib.hid ihl
  have H3 := Lib.hid h3
  clear hn ihp ihl h3
  generalize names.length = m1 at *
  go_enter Tryz.func16, Tryz.ntmps16
  go_wp2_with (go_at_call 28; refine Calls.mono (branched0 B d IHP.out IHL.out 10 9 t v tru asg p l _ A1 A2 A3 A4 m1 m2 c1 c2 c3 c4 (Ino.later H3.out (below_new _ _)) sp sl qp ql kp kl ?_) ?_; (simp only [World.size_alloc]; omega); intro e w1 hpost; obtain ⟨bp, bl, rfl, hqp, hql, hb⟩ := hpost.use0 w.heap.size (by simp); replace hqp := Lib.hid hqp; replace hql := Lib.hid hql)
  go_ret2
  have hb1 : Below w.heap.size w w1 := below_alloc hb
  have hb2 := below_trans (below_new w1 (.cells #[.int .i64 10, .int .i64 0, .pointer none, .int .i64 0, .pointer (some ⟨bp, 0, none⟩), .pointer (some ⟨bl, 0, none⟩), .pointer none] 113)) (below_new _ (.cells #[.int .i64 10, .int .i64 0, .pointer none, .int .i64 0, .pointer (some ⟨bp, 0, none⟩), .pointer (some ⟨bl, 0, none⟩), .pointer none] 118))
  exact ⟨w1.heap.size + 1, rfl, Pn.new (n := (.mk 9 t v names tru asg decl [p, l] [] false num ex)) (by have := hb1.size; omega) (heap_alloc2 w1 _ _) (.branch0 (Or.inl ⟨rfl, rfl, rfl⟩) rfl rfl kp kl (hqp.out.later hb2 (Nat.le_refl _)) (hql.out.later hb2 (Nat.le_refl _))), below_trans hb1 hb2⟩

set_option maxHeartbeats 2000000 in
set_option maxRecDepth 100000 in
theorem built_if1 (B d : Nat) (ihp : PipeAt B d) (ihl : ListAt B d) (t v : ByteArray) (names : List ByteArray) (tru asg : Bool) (decl : List Nd) (p l x : Nd) (num : Int) (ex : Bool) (w : World) (A1 A2 A3 A4 : Option Addr) (m2 c1 c2 c3 c4 : Nat) (hB : B ≤ w.heap.size)
    (hn : Strs w (· < B) (.slice A1 names.length c1) names) (h3 : Ino w B d (.slice A3 2 c3) [p, l]) (h4 : Ino w B d (.slice A4 1 c4) [x]) (sp : Sm d p) (sl : Sm d l) (sx : Sm d x) (qp : Shp d p) (ql : Shp d l) (qx : Shp d x) (kp : p.kind = 13) (kl : l.kind = 10) (kx : x.kind = 10) :
    Calls Tryz.prog 16 #[.agg #[.int .i64 9, .string t, .string v, .slice A1 names.length c1, .bool tru, .bool asg, .slice A2 m2 c2, .slice A3 2 c3, .slice A4 1 c4, .bool true, .bool false, .bool false, .bool false, .bool false, .int .i64 0, .int .u64 0, .int .u64 0]] w
      (BuiltPost w B (d + 1) (.mk 9 t v names tru asg decl [p, l] [x] true num ex)) := by
  have IHP := Lib.hid ihp
  have IHL := Lib.hid ihl
  have H3 := Lib.hid h3
  have H4 := Lib.hid h4
  clear hn ihp ihl h3 h4
  generalize names.length = m1 at *
  go_enter Tryz.func16, Tryz.ntmps16
  go_wp2_with (go_at_call 28; refine Calls.mono (branched1 B d IHP.out IHL.out 10 9 t v tru asg p l x _ A1 A2 A3 A4 m1 m2 c1 c2 c3 c4 (Ino.later H3.out (below_new _ _)) (Ino.later H4.out (below_new _ _)) sp sl sx qp ql qx kp kl kx ?_) ?_; (simp only [World.size_alloc]; omega); intro e w1 hpost; obtain ⟨bp, bl, be, rfl, hqp, hql, hqx, hb⟩ := hpost.use1 w.heap.size (by simp); replace hqp := Lib.hid hqp; replace hql := Lib.hid hql; replace hqx := Lib.hid hqx)
  go_ret2
  have hb1 : Below w.heap.size w w1 := below_alloc hb
  have hb2 := below_trans (below_new w1 (.cells #[.int .i64 10, .int .i64 0, .pointer none, .int .i64 0, .pointer (some ⟨bp, 0, none⟩), .pointer (some ⟨bl, 0, none⟩), .pointer (some ⟨be, 0, none⟩)] 113)) (below_new _ (.cells #[.int .i64 10, .int .i64 0, .pointer none, .int .i64 0, .pointer (some ⟨bp, 0, none⟩), .pointer (some ⟨bl, 0, none⟩), .pointer (some ⟨be, 0, none⟩)] 118))
  exact ⟨w1.heap.size + 1, rfl, Pn.new (n := (.mk 9 t v names tru asg decl [p, l] [x] true num ex)) (by have := hb1.size; omega) (heap_alloc2 w1 _ _) (.branch1 (Or.inl ⟨rfl, rfl, rfl⟩) rfl rfl rfl kp kl kx (hqp.out.later hb2 (Nat.le_refl _)) (hql.out.later hb2 (Nat.le_refl _)) (hqx.out.later hb2 (Nat.le_refl _))), below_trans hb1 hb2⟩

set_option maxHeartbeats 2000000 in
set_option maxRecDepth 100000 in
theorem built_range0 (B d : Nat) (ihp : PipeAt B d) (ihl : ListAt B d) (t v : ByteArray) (names : List ByteArray) (tru asg : Bool) (decl : List Nd) (p l : Nd) (num : Int) (ex : Bool) (w : World) (A1 A2 A3 A4 : Option Addr) (m2 c1 c2 c3 c4 : Nat) (hB : B ≤ w.heap.size)
    (hn : Strs w (· < B) (.slice A1 names.length c1) names) (h3 : Ino w B d (.slice A3 2 c3) [p, l]) (sp : Sm d p) (sl : Sm d l) (qp : Shp d p) (ql : Shp d l) (kp : p.kind = 13) (kl : l.kind = 10) :
    Calls Tryz.prog 16 #[.agg #[.int .i64 14, .string t, .string v, .slice A1 names.length c1, .bool tru, .bool asg, .slice A2 m2 c2, .slice A3 2 c3, .slice A4 0 c4, .bool false, .bool false, .bool false, .bool false, .bool false, .int .i64 0, .int .u64 0, .int .u64 0]] w
      (BuiltPost w B (d + 1) (.mk 14 t v names tru asg decl [p, l] [] false num ex)) := by
  have IHP := Lib.hid ihp
  have IHL := Lib.hid ihl
  have H3 := Lib.hid h3
  clear hn ihp ihl h3
  generalize names.length = m1 at *
  go_enter Tryz.func16, Tryz.ntmps16
  go_wp2_with (go_at_call 28; refine Calls.mono (branched0 B d IHP.out IHL.out 15 14 t v tru asg p l _ A1 A2 A3 A4 m1 m2 c1 c2 c3 c4 (Ino.later H3.out (below_new _ _)) sp sl qp ql kp kl ?_) ?_; (simp only [World.size_alloc]; omega); intro e w1 hpost; obtain ⟨bp, bl, rfl, hqp, hql, hb⟩ := hpost.use0 w.heap.size (by simp); replace hqp := Lib.hid hqp; replace hql := Lib.hid hql)
  go_ret2
  have hb1 : Below w.heap.size w w1 := below_alloc hb
  have hb2 := below_trans (below_new w1 (.cells #[.int .i64 15, .int .i64 0, .pointer none, .int .i64 0, .pointer (some ⟨bp, 0, none⟩), .pointer (some ⟨bl, 0, none⟩), .pointer none] 113)) (below_new _ (.cells #[.int .i64 15, .int .i64 0, .pointer none, .int .i64 0, .pointer (some ⟨bp, 0, none⟩), .pointer (some ⟨bl, 0, none⟩), .pointer none] 120))
  exact ⟨w1.heap.size + 1, rfl, Pn.new (n := (.mk 14 t v names tru asg decl [p, l] [] false num ex)) (by have := hb1.size; omega) (heap_alloc2 w1 _ _) (.branch0 (Or.inr (Or.inl ⟨rfl, rfl, rfl⟩)) rfl rfl kp kl (hqp.out.later hb2 (Nat.le_refl _)) (hql.out.later hb2 (Nat.le_refl _))), below_trans hb1 hb2⟩

set_option maxHeartbeats 2000000 in
set_option maxRecDepth 100000 in
theorem built_range1 (B d : Nat) (ihp : PipeAt B d) (ihl : ListAt B d) (t v : ByteArray) (names : List ByteArray) (tru asg : Bool) (decl : List Nd) (p l x : Nd) (num : Int) (ex : Bool) (w : World) (A1 A2 A3 A4 : Option Addr) (m2 c1 c2 c3 c4 : Nat) (hB : B ≤ w.heap.size)
    (hn : Strs w (· < B) (.slice A1 names.length c1) names) (h3 : Ino w B d (.slice A3 2 c3) [p, l]) (h4 : Ino w B d (.slice A4 1 c4) [x]) (sp : Sm d p) (sl : Sm d l) (sx : Sm d x) (qp : Shp d p) (ql : Shp d l) (qx : Shp d x) (kp : p.kind = 13) (kl : l.kind = 10) (kx : x.kind = 10) :
    Calls Tryz.prog 16 #[.agg #[.int .i64 14, .string t, .string v, .slice A1 names.length c1, .bool tru, .bool asg, .slice A2 m2 c2, .slice A3 2 c3, .slice A4 1 c4, .bool true, .bool false, .bool false, .bool false, .bool false, .int .i64 0, .int .u64 0, .int .u64 0]] w
      (BuiltPost w B (d + 1) (.mk 14 t v names tru asg decl [p, l] [x] true num ex)) := by
  have IHP := Lib.hid ihp
  have IHL := Lib.hid ihl
  have H3 := Lib.hid h3
  have H4 := Lib.hid h4
  clear hn ihp ihl h3 h4
  generalize names.length = m1 at *
  go_enter Tryz.func16, Tryz.ntmps16
  go_wp2_with (go_at_call 28; refine Calls.mono (branched1 B d IHP.out IHL.out 15 14 t v tru asg p l x _ A1 A2 A3 A4 m1 m2 c1 c2 c3 c4 (Ino.later H3.out (below_new _ _)) (Ino.later H4.out (below_new _ _)) sp sl sx qp ql qx kp kl kx ?_) ?_; (simp only [World.size_alloc]; omega); intro e w1 hpost; obtain ⟨bp, bl, be, rfl, hqp, hql, hqx, hb⟩ := hpost.use1 w.heap.size (by simp); replace hqp := Lib.hid hqp; replace hql := Lib.hid hql; replace hqx := Lib.hid hqx)
  go_ret2
  have hb1 : Below w.heap.size w w1 := below_alloc hb
  have hb2 := below_trans (below_new w1 (.cells #[.int .i64 15, .int .i64 0, .pointer none, .int .i64 0, .pointer (some ⟨bp, 0, none⟩), .pointer (some ⟨bl, 0, none⟩), .pointer (some ⟨be, 0, none⟩)] 113)) (below_new _ (.cells #[.int .i64 15, .int .i64 0, .pointer none, .int .i64 0, .pointer (some ⟨bp, 0, none⟩), .pointer (some ⟨bl, 0, none⟩), .pointer (some ⟨be, 0, none⟩)] 120))
  exact ⟨w1.heap.size + 1, rfl, Pn.new (n := (.mk 14 t v names tru asg decl [p, l] [x] true num ex)) (by have := hb1.size; omega) (heap_alloc2 w1 _ _) (.branch1 (Or.inr (Or.inl ⟨rfl, rfl, rfl⟩)) rfl rfl rfl kp kl kx (hqp.out.later hb2 (Nat.le_refl _)) (hql.out.later hb2 (Nat.le_refl _)) (hqx.out.later hb2 (Nat.le_refl _))), below_trans hb1 hb2⟩

set_option maxHeartbeats 2000000 in
set_option maxRecDepth 100000 in
theorem built_with0 (B d : Nat) (ihp : PipeAt B d) (ihl : ListAt B d) (t v : ByteArray) (names : List ByteArray) (tru asg : Bool) (decl : List Nd) (p l : Nd) (num : Int) (ex : Bool) (w : World) (A1 A2 A3 A4 : Option Addr) (m2 c1 c2 c3 c4 : Nat) (hB : B ≤ w.heap.size)
    (hn : Strs w (· < B) (.slice A1 names.length c1) names) (h3 : Ino w B d (.slice A3 2 c3) [p, l]) (sp : Sm d p) (sl : Sm d l) (qp : Shp d p) (ql : Shp d l) (kp : p.kind = 13) (kl : l.kind = 10) :
    Calls Tryz.prog 16 #[.agg #[.int .i64 18, .string t, .string v, .slice A1 names.length c1, .bool tru, .bool asg, .slice A2 m2 c2, .slice A3 2 c3, .slice A4 0 c4, .bool false, .bool false, .bool false, .bool false, .bool false, .int .i64 0, .int .u64 0, .int .u64 0]] w
      (BuiltPost w B (d + 1) (.mk 18 t v names tru asg decl [p, l] [] false num ex)) := by
  have IHP := Lib.hid ihp
  have IHL := Lib.hid ihl
  have H3 := Lib.hid h3
  clear hn ihp ihl h3
  generalize names.length = m1 at *
  go_enter Tryz.func16, Tryz.ntmps16
  go_wp2_with (go_at_call 28; refine Calls.mono (branched0 B d IHP.out IHL.out 19 18 t v tru asg p l _ A1 A2 A3 A4 m1 m2 c1 c2 c3 c4 (Ino.later H3.out (below_new _ _)) sp sl qp ql kp kl ?_) ?_; (simp only [World.size_alloc]; omega); intro e w1 hpost; obtain ⟨bp, bl, rfl, hqp, hql, hb⟩ := hpost.use0 w.heap.size (by simp); replace hqp := Lib.hid hqp; replace hql := Lib.hid hql)
  go_ret2
  have hb1 : Below w.heap.size w w1 := below_alloc hb
  have hb2 := below_trans (below_new w1 (.cells #[.int .i64 19, .int .i64 0, .pointer none, .int .i64 0, .pointer (some ⟨bp, 0, none⟩), .pointer (some ⟨bl, 0, none⟩), .pointer none] 113)) (below_new _ (.cells #[.int .i64 19, .int .i64 0, .pointer none, .int .i64 0, .pointer (some ⟨bp, 0, none⟩), .pointer (some ⟨bl, 0, none⟩), .pointer none] 122))
  exact ⟨w1.heap.size + 1, rfl, Pn.new (n := (.mk 18 t v names tru asg decl [p, l] [] false num ex)) (by have := hb1.size; omega) (heap_alloc2 w1 _ _) (.branch0 (Or.inr (Or.inr ⟨rfl, rfl, rfl⟩)) rfl rfl kp kl (hqp.out.later hb2 (Nat.le_refl _)) (hql.out.later hb2 (Nat.le_refl _))), below_trans hb1 hb2⟩

set_option maxHeartbeats 2000000 in
set_option maxRecDepth 100000 in
theorem built_with1 (B d : Nat) (ihp : PipeAt B d) (ihl : ListAt B d) (t v : ByteArray) (names : List ByteArray) (tru asg : Bool) (decl : List Nd) (p l x : Nd) (num : Int) (ex : Bool) (w : World) (A1 A2 A3 A4 : Option Addr) (m2 c1 c2 c3 c4 : Nat) (hB : B ≤ w.heap.size)
    (hn : Strs w (· < B) (.slice A1 names.length c1) names) (h3 : Ino w B d (.slice A3 2 c3) [p, l]) (h4 : Ino w B d (.slice A4 1 c4) [x]) (sp : Sm d p) (sl : Sm d l) (sx : Sm d x) (qp : Shp d p) (ql : Shp d l) (qx : Shp d x) (kp : p.kind = 13) (kl : l.kind = 10) (kx : x.kind = 10) :
    Calls Tryz.prog 16 #[.agg #[.int .i64 18, .string t, .string v, .slice A1 names.length c1, .bool tru, .bool asg, .slice A2 m2 c2, .slice A3 2 c3, .slice A4 1 c4, .bool true, .bool false, .bool false, .bool false, .bool false, .int .i64 0, .int .u64 0, .int .u64 0]] w
      (BuiltPost w B (d + 1) (.mk 18 t v names tru asg decl [p, l] [x] true num ex)) := by
  have IHP := Lib.hid ihp
  have IHL := Lib.hid ihl
  have H3 := Lib.hid h3
  have H4 := Lib.hid h4
  clear hn ihp ihl h3 h4
  generalize names.length = m1 at *
  go_enter Tryz.func16, Tryz.ntmps16
  go_wp2_with (go_at_call 28; refine Calls.mono (branched1 B d IHP.out IHL.out 19 18 t v tru asg p l x _ A1 A2 A3 A4 m1 m2 c1 c2 c3 c4 (Ino.later H3.out (below_new _ _)) (Ino.later H4.out (below_new _ _)) sp sl sx qp ql qx kp kl kx ?_) ?_; (simp only [World.size_alloc]; omega); intro e w1 hpost; obtain ⟨bp, bl, be, rfl, hqp, hql, hqx, hb⟩ := hpost.use1 w.heap.size (by simp); replace hqp := Lib.hid hqp; replace hql := Lib.hid hql; replace hqx := Lib.hid hqx)
  go_ret2
  have hb1 : Below w.heap.size w w1 := below_alloc hb
  have hb2 := below_trans (below_new w1 (.cells #[.int .i64 19, .int .i64 0, .pointer none, .int .i64 0, .pointer (some ⟨bp, 0, none⟩), .pointer (some ⟨bl, 0, none⟩), .pointer (some ⟨be, 0, none⟩)] 113)) (below_new _ (.cells #[.int .i64 19, .int .i64 0, .pointer none, .int .i64 0, .pointer (some ⟨bp, 0, none⟩), .pointer (some ⟨bl, 0, none⟩), .pointer (some ⟨be, 0, none⟩)] 122))
  exact ⟨w1.heap.size + 1, rfl, Pn.new (n := (.mk 18 t v names tru asg decl [p, l] [x] true num ex)) (by have := hb1.size; omega) (heap_alloc2 w1 _ _) (.branch1 (Or.inr (Or.inr ⟨rfl, rfl, rfl⟩)) rfl rfl rfl kp kl kx (hqp.out.later hb2 (Nat.le_refl _)) (hql.out.later hb2 (Nat.le_refl _)) (hqx.out.later hb2 (Nat.le_refl _))), below_trans hb1 hb2⟩

end Go.Proofs.YtiogfkpclkkoaaaGreat
