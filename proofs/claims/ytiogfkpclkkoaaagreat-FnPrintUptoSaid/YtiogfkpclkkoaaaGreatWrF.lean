/-
  The writers of a comment, an action, a call of a template. Printed by py/wrb.py.
  Plain words on what the loops of the writers have written so far. Printed by py/wrc.py.
-/
import Derived.Test.YtiogfkpclkkoaaaGreatWrA
import Derived.Test.YtiogfkpclkkoaaaGreatQuo
set_option linter.unusedVariables false
set_option linter.unusedSimpArgs false
namespace Go.Proofs.YtiogfkpclkkoaaaGreat
open Go.RowKit

theorem wr_at {B bt sb d b k : Nat} {n : Nd} {l : List UInt8} {w : World} (ih : WrAt B bt sb d) (hk : n.kind = (k : Int)) (h : PN w 0 (· < B) (TrIs (some ⟨bt, 0, none⟩)) d b n) (hn : Nmd d n) (hs : Sm d n) (he : Env B bt sb l w) (hl : l.length + (pr d n).length ≤ 140737488355328) :
    Calls Tryz.prog (wrF (k : Int)) #[.pointer (some ⟨b, 0, none⟩), .pointer (some ⟨sb, 0, none⟩)] w (WrPost B bt sb w (l ++ pr d n)) := by
  rw [← hk]
  exact ih b n l w h hn hs he hl

set_option maxHeartbeats 1000000 in
set_option maxRecDepth 100000 in
theorem wr_comment {B bt sb b d : Nat} {n : Nd} {l : List UInt8} {w : World} (h : n.kind = 19) (hbB : b < B) (hh : w.heap[b]? = some (.cells #[.int .i64 20, .int .i64 0, .pointer (some ⟨bt, 0, none⟩), .string n.text] 59 (0, 0))) (he : Env B bt sb l w) (hl : l.length + (pr (d + 1) n).length ≤ 140737488355328) :
    Calls Tryz.prog 56 #[.pointer (some ⟨b, 0, none⟩), .pointer (some ⟨sb, 0, none⟩)] w (WrPost B bt sb w (l ++ pr (d + 1) n)) := by
  have e0 : pr (d + 1) n = lbr ++ by' n.text ++ rbr := by simp [pr, h]
  rw [e0] at hl ⊢
  simp only [List.length_append, List.length_cons, List.length_nil, by'_len, lbr, rbr] at hl
  clear e0 h
  generalize n.text = t at *
  have HE0 := Lib.hid he
  have HB0 : Hid (Below B w w) := Lib.hid (Below.refl _ _)
  have HH0 := Lib.hid hh
  have LB := Lib.hid hbB
  clear he hh hbB 
  have g0_2 : w.cell? ⟨b, 2, none⟩ = some (.pointer (some ⟨bt, 0, none⟩)) := cell_of_heap' HH0.out
  have g0_3 : w.cell? ⟨b, 3, none⟩ = some (.string t) := cell_of_heap' HH0.out
  have t0l := HE0.out.2.2.2.1
  have t0r := HE0.out.2.2.2.2
  go_enter Tryz.func56, Tryz.ntmps56
  go_wp2_with fail
  refine Calls.mono (env_string HE0.out _ [123, 123] rfl (by simp only [List.length_append, List.length_cons, List.length_nil, by'_len]; omega)) ?_
  rintro e w1 ⟨rfl, he, hb⟩
  have HE1 := Lib.hid he
  have HB1 := Lib.hid (HB0.out.trans hb)
  have HH1 := Lib.hid (node_later HH0.out LB.out hb)
  clear he hb g0_2 g0_3 t0l t0r
  have g1_2 : w1.cell? ⟨b, 2, none⟩ = some (.pointer (some ⟨bt, 0, none⟩)) := cell_of_heap' HH1.out
  have g1_3 : w1.cell? ⟨b, 3, none⟩ = some (.string t) := cell_of_heap' HH1.out
  have t1l := HE1.out.2.2.2.1
  have t1r := HE1.out.2.2.2.2
  go_wp2_with fail
  refine Calls.mono (env_string HE1.out _ (by' t) rfl (by simp only [List.length_append, List.length_cons, List.length_nil, by'_len]; omega)) ?_
  rintro e w2 ⟨rfl, he, hb⟩
  have HE2 := Lib.hid he
  have HB2 := Lib.hid (HB1.out.trans hb)
  have HH2 := Lib.hid (node_later HH1.out LB.out hb)
  clear he hb g1_2 g1_3 t1l t1r
  have g2_2 : w2.cell? ⟨b, 2, none⟩ = some (.pointer (some ⟨bt, 0, none⟩)) := cell_of_heap' HH2.out
  have g2_3 : w2.cell? ⟨b, 3, none⟩ = some (.string t) := cell_of_heap' HH2.out
  have t2l := HE2.out.2.2.2.1
  have t2r := HE2.out.2.2.2.2
  go_wp2_with fail
  refine Calls.mono (env_string HE2.out _ [125, 125] rfl (by simp only [List.length_append, List.length_cons, List.length_nil, by'_len]; omega)) ?_
  rintro e w3 ⟨rfl, he, hb⟩
  have HE3 := Lib.hid he
  have HB3 := Lib.hid (HB2.out.trans hb)
  have HH3 := Lib.hid (node_later HH2.out LB.out hb)
  clear he hb g2_2 g2_3 t2l t2r
  have g3_2 : w3.cell? ⟨b, 2, none⟩ = some (.pointer (some ⟨bt, 0, none⟩)) := cell_of_heap' HH3.out
  have g3_3 : w3.cell? ⟨b, 3, none⟩ = some (.string t) := cell_of_heap' HH3.out
  have t3l := HE3.out.2.2.2.1
  have t3r := HE3.out.2.2.2.2
  go_wp2
  all_goals (first | go_end0 | refine bodyPost_ret (results_none rfl _ _ _) rfl ?_)
  all_goals exact ⟨rfl, by have h := HE3.out; simpa [lbr, rbr, List.append_assoc] using h, HB3.out⟩

set_option maxHeartbeats 1000000 in
set_option maxRecDepth 100000 in
theorem wr_action {B bt sb b d bq : Nat} {n q : Nd} {l : List UInt8} {w : World} (ih : WrAt B bt sb d) (h : n.kind = 2) (hk : n.kids = [q]) (hqq : PN w 0 (· < B) (TrIs (some ⟨bt, 0, none⟩)) d bq q) (kq : q.kind = (13 : Nat)) (nq : Nmd d q) (sq : Sm d q) (hbB : b < B) (hh : w.heap[b]? = some (.cells #[.int .i64 1, .int .i64 0, .pointer (some ⟨bt, 0, none⟩), .int .i64 0, .pointer (some ⟨bq, 0, none⟩)] 95 (0, 0))) (he : Env B bt sb l w) (hl : l.length + (pr (d + 1) n).length ≤ 140737488355328) :
    Calls Tryz.prog 113 #[.pointer (some ⟨b, 0, none⟩), .pointer (some ⟨sb, 0, none⟩)] w (WrPost B bt sb w (l ++ pr (d + 1) n)) := by
  have e0 : pr (d + 1) n = lbr ++ pr d q ++ rbr := by simp [pr, h, hk, firstD]
  rw [e0] at hl ⊢
  simp only [List.length_append, List.length_cons, List.length_nil, by'_len, lbr, rbr] at hl
  clear e0 h hk
  have Kq := Lib.hid kq
  have Nq := Lib.hid nq
  have Sq := Lib.hid sq
  have IH := Lib.hid ih
  clear kq nq sq ih
  have HE0 := Lib.hid he
  have HB0 : Hid (Below B w w) := Lib.hid (Below.refl _ _)
  have HH0 := Lib.hid hh
  have LB := Lib.hid hbB
  have HQq0 := Lib.hid hqq
  clear he hh hbB hqq
  have g0_2 : w.cell? ⟨b, 2, none⟩ = some (.pointer (some ⟨bt, 0, none⟩)) := cell_of_heap' HH0.out
  have g0_4 : w.cell? ⟨b, 4, none⟩ = some (.pointer (some ⟨bq, 0, none⟩)) := cell_of_heap' HH0.out
  have t0l := HE0.out.2.2.2.1
  have t0r := HE0.out.2.2.2.2
  go_enter Tryz.func113, Tryz.ntmps113
  go_wp2_with fail
  refine Calls.mono (env_string HE0.out _ [123, 123] rfl (by simp only [List.length_append, List.length_cons, List.length_nil, by'_len]; omega)) ?_
  rintro e w1 ⟨rfl, he, hb⟩
  have HE1 := Lib.hid he
  have HB1 := Lib.hid (HB0.out.trans hb)
  have HH1 := Lib.hid (node_later HH0.out LB.out hb)
  have HQq1 := Lib.hid (HQq0.out.low hb)
  clear he hb g0_2 g0_4 t0l t0r
  have g1_2 : w1.cell? ⟨b, 2, none⟩ = some (.pointer (some ⟨bt, 0, none⟩)) := cell_of_heap' HH1.out
  have g1_4 : w1.cell? ⟨b, 4, none⟩ = some (.pointer (some ⟨bq, 0, none⟩)) := cell_of_heap' HH1.out
  have t1l := HE1.out.2.2.2.1
  have t1r := HE1.out.2.2.2.2
  go_wp2_with fail
  refine Calls.mono (wr_at IH.out Kq.out HQq1.out Nq.out Sq.out HE1.out (by simp only [List.length_append, List.length_cons, List.length_nil, by'_len]; omega)) ?_
  rintro e w2 ⟨rfl, he, hb⟩
  have HE2 := Lib.hid he
  have HB2 := Lib.hid (HB1.out.trans hb)
  have HH2 := Lib.hid (node_later HH1.out LB.out hb)
  have HQq2 := Lib.hid (HQq1.out.low hb)
  clear he hb g1_2 g1_4 t1l t1r
  have g2_2 : w2.cell? ⟨b, 2, none⟩ = some (.pointer (some ⟨bt, 0, none⟩)) := cell_of_heap' HH2.out
  have g2_4 : w2.cell? ⟨b, 4, none⟩ = some (.pointer (some ⟨bq, 0, none⟩)) := cell_of_heap' HH2.out
  have t2l := HE2.out.2.2.2.1
  have t2r := HE2.out.2.2.2.2
  go_wp2_with fail
  refine Calls.mono (env_string HE2.out _ [125, 125] rfl (by simp only [List.length_append, List.length_cons, List.length_nil, by'_len]; omega)) ?_
  rintro e w3 ⟨rfl, he, hb⟩
  have HE3 := Lib.hid he
  have HB3 := Lib.hid (HB2.out.trans hb)
  have HH3 := Lib.hid (node_later HH2.out LB.out hb)
  have HQq3 := Lib.hid (HQq2.out.low hb)
  clear he hb g2_2 g2_4 t2l t2r
  have g3_2 : w3.cell? ⟨b, 2, none⟩ = some (.pointer (some ⟨bt, 0, none⟩)) := cell_of_heap' HH3.out
  have g3_4 : w3.cell? ⟨b, 4, none⟩ = some (.pointer (some ⟨bq, 0, none⟩)) := cell_of_heap' HH3.out
  have t3l := HE3.out.2.2.2.1
  have t3r := HE3.out.2.2.2.2
  go_wp2
  all_goals (first | go_end0 | refine bodyPost_ret (results_none rfl _ _ _) rfl ?_)
  all_goals exact ⟨rfl, by have h := HE3.out; simpa [lbr, rbr, List.append_assoc] using h, HB3.out⟩

set_option maxHeartbeats 1000000 in
set_option maxRecDepth 100000 in
theorem wr_tpl0 {B bt sb b d : Nat} {n : Nd} {l : List UInt8} {w : World} (h : n.kind = 16) (hk : n.kids = []) (hsi : SimpleS n.text) (hsz : n.text.size ≤ 1048576) (hbB : b < B) (hh : w.heap[b]? = some (.cells #[.int .i64 17, .int .i64 0, .pointer (some ⟨bt, 0, none⟩), .int .i64 0, .string n.text, .pointer none] 98 (0, 0))) (he : Env B bt sb l w) (hl : l.length + (pr (d + 1) n).length ≤ 140737488355328) :
    Calls Tryz.prog 117 #[.pointer (some ⟨b, 0, none⟩), .pointer (some ⟨sb, 0, none⟩)] w (WrPost B bt sb w (l ++ pr (d + 1) n)) := by
  have e0 : pr (d + 1) n = lbr ++ [116, 101, 109, 112, 108, 97, 116, 101, 32, 34] ++ by' n.text ++ [34] ++ [] ++ rbr := by simp [pr, h, hk, firstD]
  rw [e0] at hl ⊢
  simp only [List.length_append, List.length_cons, List.length_nil, by'_len, lbr, rbr] at hl
  clear e0 h hk
  generalize n.text = t at *
  have HSI := Lib.hid hsi
  clear hsi
  have HE0 := Lib.hid he
  have HB0 : Hid (Below B w w) := Lib.hid (Below.refl _ _)
  have HH0 := Lib.hid hh
  have LB := Lib.hid hbB
  clear he hh hbB 
  have g0_2 : w.cell? ⟨b, 2, none⟩ = some (.pointer (some ⟨bt, 0, none⟩)) := cell_of_heap' HH0.out
  have g0_4 : w.cell? ⟨b, 4, none⟩ = some (.string t) := cell_of_heap' HH0.out
  have g0_5 : w.cell? ⟨b, 5, none⟩ = some (.pointer none) := cell_of_heap' HH0.out
  have t0l := HE0.out.2.2.2.1
  have t0r := HE0.out.2.2.2.2
  go_enter Tryz.func117, Tryz.ntmps117
  go_wp2_with fail
  refine Calls.mono (env_string HE0.out _ [123, 123] rfl (by simp only [List.length_append, List.length_cons, List.length_nil, by'_len]; omega)) ?_
  rintro e w1 ⟨rfl, he, hb⟩
  have HE1 := Lib.hid he
  have HB1 := Lib.hid (HB0.out.trans hb)
  have HH1 := Lib.hid (node_later HH0.out LB.out hb)
  clear he hb g0_2 g0_4 g0_5 t0l t0r
  have g1_2 : w1.cell? ⟨b, 2, none⟩ = some (.pointer (some ⟨bt, 0, none⟩)) := cell_of_heap' HH1.out
  have g1_4 : w1.cell? ⟨b, 4, none⟩ = some (.string t) := cell_of_heap' HH1.out
  have g1_5 : w1.cell? ⟨b, 5, none⟩ = some (.pointer none) := cell_of_heap' HH1.out
  have t1l := HE1.out.2.2.2.1
  have t1r := HE1.out.2.2.2.2
  go_wp2_with fail
  refine Calls.mono (env_string HE1.out _ [116, 101, 109, 112, 108, 97, 116, 101, 32] rfl (by simp only [List.length_append, List.length_cons, List.length_nil, by'_len]; omega)) ?_
  rintro e w2 ⟨rfl, he, hb⟩
  have HE2 := Lib.hid he
  have HB2 := Lib.hid (HB1.out.trans hb)
  have HH2 := Lib.hid (node_later HH1.out LB.out hb)
  clear he hb g1_2 g1_4 g1_5 t1l t1r
  have g2_2 : w2.cell? ⟨b, 2, none⟩ = some (.pointer (some ⟨bt, 0, none⟩)) := cell_of_heap' HH2.out
  have g2_4 : w2.cell? ⟨b, 4, none⟩ = some (.string t) := cell_of_heap' HH2.out
  have g2_5 : w2.cell? ⟨b, 5, none⟩ = some (.pointer none) := cell_of_heap' HH2.out
  have t2l := HE2.out.2.2.2.1
  have t2r := HE2.out.2.2.2.2
  go_wp2_with fail
  refine Calls.mono (env_quote HE2.out t HSI.out hsz) ?_
  rintro e w3 ⟨rfl, he, hb⟩
  have HE3 := Lib.hid he
  have HB3 := Lib.hid (HB2.out.trans hb)
  have HH3 := Lib.hid (node_later HH2.out LB.out hb)
  clear he hb g2_2 g2_4 g2_5 t2l t2r
  have g3_2 : w3.cell? ⟨b, 2, none⟩ = some (.pointer (some ⟨bt, 0, none⟩)) := cell_of_heap' HH3.out
  have g3_4 : w3.cell? ⟨b, 4, none⟩ = some (.string t) := cell_of_heap' HH3.out
  have g3_5 : w3.cell? ⟨b, 5, none⟩ = some (.pointer none) := cell_of_heap' HH3.out
  have t3l := HE3.out.2.2.2.1
  have t3r := HE3.out.2.2.2.2
  go_wp2_with fail
  refine Calls.mono (env_string HE3.out _ (34 :: (by' t ++ [34])) rfl (by simp only [List.length_append, List.length_cons, List.length_nil, by'_len]; omega)) ?_
  rintro e w4 ⟨rfl, he, hb⟩
  have HE4 := Lib.hid he
  have HB4 := Lib.hid (HB3.out.trans hb)
  have HH4 := Lib.hid (node_later HH3.out LB.out hb)
  clear he hb g3_2 g3_4 g3_5 t3l t3r
  have g4_2 : w4.cell? ⟨b, 2, none⟩ = some (.pointer (some ⟨bt, 0, none⟩)) := cell_of_heap' HH4.out
  have g4_4 : w4.cell? ⟨b, 4, none⟩ = some (.string t) := cell_of_heap' HH4.out
  have g4_5 : w4.cell? ⟨b, 5, none⟩ = some (.pointer none) := cell_of_heap' HH4.out
  have t4l := HE4.out.2.2.2.1
  have t4r := HE4.out.2.2.2.2
  go_wp2_with fail
  refine Calls.mono (env_string HE4.out _ [125, 125] rfl (by simp only [List.length_append, List.length_cons, List.length_nil, by'_len]; omega)) ?_
  rintro e w5 ⟨rfl, he, hb⟩
  have HE5 := Lib.hid he
  have HB5 := Lib.hid (HB4.out.trans hb)
  have HH5 := Lib.hid (node_later HH4.out LB.out hb)
  clear he hb g4_2 g4_4 g4_5 t4l t4r
  have g5_2 : w5.cell? ⟨b, 2, none⟩ = some (.pointer (some ⟨bt, 0, none⟩)) := cell_of_heap' HH5.out
  have g5_4 : w5.cell? ⟨b, 4, none⟩ = some (.string t) := cell_of_heap' HH5.out
  have g5_5 : w5.cell? ⟨b, 5, none⟩ = some (.pointer none) := cell_of_heap' HH5.out
  have t5l := HE5.out.2.2.2.1
  have t5r := HE5.out.2.2.2.2
  go_wp2
  all_goals (first | go_end0 | refine bodyPost_ret (results_none rfl _ _ _) rfl ?_)
  all_goals exact ⟨rfl, by have h := HE5.out; simpa [lbr, rbr, List.append_assoc] using h, HB5.out⟩

set_option maxHeartbeats 1000000 in
set_option maxRecDepth 100000 in
theorem wr_tpl1 {B bt sb b d bq : Nat} {n q : Nd} {l : List UInt8} {w : World} (ih : WrAt B bt sb d) (h : n.kind = 16) (hk : n.kids = [q]) (hqq : PN w 0 (· < B) (TrIs (some ⟨bt, 0, none⟩)) d bq q) (kq : q.kind = (13 : Nat)) (nq : Nmd d q) (sq : Sm d q) (hsi : SimpleS n.text) (hsz : n.text.size ≤ 1048576) (hbB : b < B) (hh : w.heap[b]? = some (.cells #[.int .i64 17, .int .i64 0, .pointer (some ⟨bt, 0, none⟩), .int .i64 0, .string n.text, .pointer (some ⟨bq, 0, none⟩)] 98 (0, 0))) (he : Env B bt sb l w) (hl : l.length + (pr (d + 1) n).length ≤ 140737488355328) :
    Calls Tryz.prog 117 #[.pointer (some ⟨b, 0, none⟩), .pointer (some ⟨sb, 0, none⟩)] w (WrPost B bt sb w (l ++ pr (d + 1) n)) := by
  have e0 : pr (d + 1) n = lbr ++ [116, 101, 109, 112, 108, 97, 116, 101, 32, 34] ++ by' n.text ++ [34] ++ (32 :: pr d q) ++ rbr := by simp [pr, h, hk, firstD]
  rw [e0] at hl ⊢
  simp only [List.length_append, List.length_cons, List.length_nil, by'_len, lbr, rbr] at hl
  clear e0 h hk
  generalize n.text = t at *
  have HSI := Lib.hid hsi
  clear hsi
  have Kq := Lib.hid kq
  have Nq := Lib.hid nq
  have Sq := Lib.hid sq
  have IH := Lib.hid ih
  clear kq nq sq ih
  have HE0 := Lib.hid he
  have HB0 : Hid (Below B w w) := Lib.hid (Below.refl _ _)
  have HH0 := Lib.hid hh
  have LB := Lib.hid hbB
  have HQq0 := Lib.hid hqq
  clear he hh hbB hqq
  have g0_2 : w.cell? ⟨b, 2, none⟩ = some (.pointer (some ⟨bt, 0, none⟩)) := cell_of_heap' HH0.out
  have g0_4 : w.cell? ⟨b, 4, none⟩ = some (.string t) := cell_of_heap' HH0.out
  have g0_5 : w.cell? ⟨b, 5, none⟩ = some (.pointer (some ⟨bq, 0, none⟩)) := cell_of_heap' HH0.out
  have t0l := HE0.out.2.2.2.1
  have t0r := HE0.out.2.2.2.2
  go_enter Tryz.func117, Tryz.ntmps117
  go_wp2_with fail
  refine Calls.mono (env_string HE0.out _ [123, 123] rfl (by simp only [List.length_append, List.length_cons, List.length_nil, by'_len]; omega)) ?_
  rintro e w1 ⟨rfl, he, hb⟩
  have HE1 := Lib.hid he
  have HB1 := Lib.hid (HB0.out.trans hb)
  have HH1 := Lib.hid (node_later HH0.out LB.out hb)
  have HQq1 := Lib.hid (HQq0.out.low hb)
  clear he hb g0_2 g0_4 g0_5 t0l t0r
  have g1_2 : w1.cell? ⟨b, 2, none⟩ = some (.pointer (some ⟨bt, 0, none⟩)) := cell_of_heap' HH1.out
  have g1_4 : w1.cell? ⟨b, 4, none⟩ = some (.string t) := cell_of_heap' HH1.out
  have g1_5 : w1.cell? ⟨b, 5, none⟩ = some (.pointer (some ⟨bq, 0, none⟩)) := cell_of_heap' HH1.out
  have t1l := HE1.out.2.2.2.1
  have t1r := HE1.out.2.2.2.2
  go_wp2_with fail
  refine Calls.mono (env_string HE1.out _ [116, 101, 109, 112, 108, 97, 116, 101, 32] rfl (by simp only [List.length_append, List.length_cons, List.length_nil, by'_len]; omega)) ?_
  rintro e w2 ⟨rfl, he, hb⟩
  have HE2 := Lib.hid he
  have HB2 := Lib.hid (HB1.out.trans hb)
  have HH2 := Lib.hid (node_later HH1.out LB.out hb)
  have HQq2 := Lib.hid (HQq1.out.low hb)
  clear he hb g1_2 g1_4 g1_5 t1l t1r
  have g2_2 : w2.cell? ⟨b, 2, none⟩ = some (.pointer (some ⟨bt, 0, none⟩)) := cell_of_heap' HH2.out
  have g2_4 : w2.cell? ⟨b, 4, none⟩ = some (.string t) := cell_of_heap' HH2.out
  have g2_5 : w2.cell? ⟨b, 5, none⟩ = some (.pointer (some ⟨bq, 0, none⟩)) := cell_of_heap' HH2.out
  have t2l := HE2.out.2.2.2.1
  have t2r := HE2.out.2.2.2.2
  go_wp2_with fail
  refine Calls.mono (env_quote HE2.out t HSI.out hsz) ?_
  rintro e w3 ⟨rfl, he, hb⟩
  have HE3 := Lib.hid he
  have HB3 := Lib.hid (HB2.out.trans hb)
  have HH3 := Lib.hid (node_later HH2.out LB.out hb)
  have HQq3 := Lib.hid (HQq2.out.low hb)
  clear he hb g2_2 g2_4 g2_5 t2l t2r
  have g3_2 : w3.cell? ⟨b, 2, none⟩ = some (.pointer (some ⟨bt, 0, none⟩)) := cell_of_heap' HH3.out
  have g3_4 : w3.cell? ⟨b, 4, none⟩ = some (.string t) := cell_of_heap' HH3.out
  have g3_5 : w3.cell? ⟨b, 5, none⟩ = some (.pointer (some ⟨bq, 0, none⟩)) := cell_of_heap' HH3.out
  have t3l := HE3.out.2.2.2.1
  have t3r := HE3.out.2.2.2.2
  go_wp2_with fail
  refine Calls.mono (env_string HE3.out _ (34 :: (by' t ++ [34])) rfl (by simp only [List.length_append, List.length_cons, List.length_nil, by'_len]; omega)) ?_
  rintro e w4 ⟨rfl, he, hb⟩
  have HE4 := Lib.hid he
  have HB4 := Lib.hid (HB3.out.trans hb)
  have HH4 := Lib.hid (node_later HH3.out LB.out hb)
  have HQq4 := Lib.hid (HQq3.out.low hb)
  clear he hb g3_2 g3_4 g3_5 t3l t3r
  have g4_2 : w4.cell? ⟨b, 2, none⟩ = some (.pointer (some ⟨bt, 0, none⟩)) := cell_of_heap' HH4.out
  have g4_4 : w4.cell? ⟨b, 4, none⟩ = some (.string t) := cell_of_heap' HH4.out
  have g4_5 : w4.cell? ⟨b, 5, none⟩ = some (.pointer (some ⟨bq, 0, none⟩)) := cell_of_heap' HH4.out
  have t4l := HE4.out.2.2.2.1
  have t4r := HE4.out.2.2.2.2
  go_wp2_with fail
  refine Calls.mono (env_byte HE4.out 32 32 rfl (by simp only [List.length_append, List.length_cons, List.length_nil, by'_len]; omega)) ?_
  rintro e w5 ⟨rfl, he, hb⟩
  have HE5 := Lib.hid he
  have HB5 := Lib.hid (HB4.out.trans hb)
  have HH5 := Lib.hid (node_later HH4.out LB.out hb)
  have HQq5 := Lib.hid (HQq4.out.low hb)
  clear he hb g4_2 g4_4 g4_5 t4l t4r
  have g5_2 : w5.cell? ⟨b, 2, none⟩ = some (.pointer (some ⟨bt, 0, none⟩)) := cell_of_heap' HH5.out
  have g5_4 : w5.cell? ⟨b, 4, none⟩ = some (.string t) := cell_of_heap' HH5.out
  have g5_5 : w5.cell? ⟨b, 5, none⟩ = some (.pointer (some ⟨bq, 0, none⟩)) := cell_of_heap' HH5.out
  have t5l := HE5.out.2.2.2.1
  have t5r := HE5.out.2.2.2.2
  go_wp2_with fail
  refine Calls.mono (wr_at IH.out Kq.out HQq5.out Nq.out Sq.out HE5.out (by simp only [List.length_append, List.length_cons, List.length_nil, by'_len]; omega)) ?_
  rintro e w6 ⟨rfl, he, hb⟩
  have HE6 := Lib.hid he
  have HB6 := Lib.hid (HB5.out.trans hb)
  have HH6 := Lib.hid (node_later HH5.out LB.out hb)
  have HQq6 := Lib.hid (HQq5.out.low hb)
  clear he hb g5_2 g5_4 g5_5 t5l t5r
  have g6_2 : w6.cell? ⟨b, 2, none⟩ = some (.pointer (some ⟨bt, 0, none⟩)) := cell_of_heap' HH6.out
  have g6_4 : w6.cell? ⟨b, 4, none⟩ = some (.string t) := cell_of_heap' HH6.out
  have g6_5 : w6.cell? ⟨b, 5, none⟩ = some (.pointer (some ⟨bq, 0, none⟩)) := cell_of_heap' HH6.out
  have t6l := HE6.out.2.2.2.1
  have t6r := HE6.out.2.2.2.2
  go_wp2_with fail
  refine Calls.mono (env_string HE6.out _ [125, 125] rfl (by simp only [List.length_append, List.length_cons, List.length_nil, by'_len]; omega)) ?_
  rintro e w7 ⟨rfl, he, hb⟩
  have HE7 := Lib.hid he
  have HB7 := Lib.hid (HB6.out.trans hb)
  have HH7 := Lib.hid (node_later HH6.out LB.out hb)
  have HQq7 := Lib.hid (HQq6.out.low hb)
  clear he hb g6_2 g6_4 g6_5 t6l t6r
  have g7_2 : w7.cell? ⟨b, 2, none⟩ = some (.pointer (some ⟨bt, 0, none⟩)) := cell_of_heap' HH7.out
  have g7_4 : w7.cell? ⟨b, 4, none⟩ = some (.string t) := cell_of_heap' HH7.out
  have g7_5 : w7.cell? ⟨b, 5, none⟩ = some (.pointer (some ⟨bq, 0, none⟩)) := cell_of_heap' HH7.out
  have t7l := HE7.out.2.2.2.1
  have t7r := HE7.out.2.2.2.2
  go_wp2
  all_goals (first | go_end0 | refine bodyPost_ret (results_none rfl _ _ _) rfl ?_)
  all_goals exact ⟨rfl, by have h := HE7.out; simpa [lbr, rbr, List.append_assoc] using h, HB7.out⟩

end Go.Proofs.YtiogfkpclkkoaaaGreat

set_option linter.unusedVariables false
set_option linter.unusedSimpArgs false
namespace Go.Proofs.YtiogfkpclkkoaaaGreat
open Go.RowKit

theorem flatMap_room {α : Type} (f : α → List UInt8) {l : List α} {k : Nat} (h : k < l.length) : ((l.take k).flatMap f).length + (f l[k]).length ≤ (l.flatMap f).length := by
  have h1 := congrArg List.length (flatMap_succ f h)
  have h2 : l.flatMap f = (l.take (k + 1)).flatMap f ++ (l.drop (k + 1)).flatMap f := by rw [← List.flatMap_append, List.take_append_drop]
  rw [h2, List.length_append, h1, List.length_append]
  omega
theorem joinL_split (sep : List UInt8) : ∀ (l m : List (List UInt8)), (joinL sep l).length ≤ (joinL sep (l ++ m)).length
  | [], _ => by simp [joinL]
  | a :: r, m => by simp [joinL]
theorem joinL_take_le (sep : List UInt8) (l : List (List UInt8)) (k : Nat) : (joinL sep (l.take k)).length ≤ (joinL sep l).length := by
  have h := joinL_split sep (l.take k) (l.drop k)
  rwa [List.take_append_drop] at h
theorem joinL_room0 {sep : List UInt8} {l : List (List UInt8)} (h : 0 < l.length) : l[0].length ≤ (joinL sep l).length := by
  have h1 := joinL_take_le sep l 1
  rwa [joinL_one h] at h1
theorem joinL_room {sep : List UInt8} {l : List (List UInt8)} {k : Nat} (h : k < l.length) (h0 : 0 < k) : (joinL sep (l.take k)).length + (sep.length + l[k].length) ≤ (joinL sep l).length := by
  have h1 := joinL_take_le sep l (k + 1)
  rw [joinL_succ h h0, List.length_append, List.length_append] at h1
  omega
theorem dots_room {l : List ByteArray} {k : Nat} (h : k < l.length) : (dots (l.take k)).length + (l[k].size + 1) ≤ (dots l).length := by
  have := flatMap_room (fun s : ByteArray => 46 :: by' s) h
  simpa [dots, by'_len] using this
theorem dots_succ {l : List ByteArray} {k : Nat} (h : k < l.length) : dots (l.take (k + 1)) = dots (l.take k) ++ (46 :: by' l[k]) := flatMap_succ _ h

/-- The joined forms of the first k. -/
def joinK {α : Type} (sep : List UInt8) (f : α → List UInt8) (k : Nat) (l : List α) : List UInt8 := joinL sep ((l.take k).map f)
theorem joinK_zero {α : Type} (sep : List UInt8) (f : α → List UInt8) (l : List α) : joinK sep f 0 l = [] := rfl
theorem joinK_all {α : Type} (sep : List UInt8) (f : α → List UInt8) {l : List α} {k : Nat} (h : l.length = k) : joinK sep f k l = joinL sep (l.map f) := by
  unfold joinK
  rw [List.take_of_length_le (by omega)]
theorem joinK_one {α : Type} (sep : List UInt8) (f : α → List UInt8) {l : List α} (h : 0 < l.length) : joinK sep f 1 l = f l[0] := by
  unfold joinK
  rw [List.map_take, joinL_one (by simpa using h)]
  simp
theorem joinK_succ {α : Type} (sep : List UInt8) (f : α → List UInt8) {l : List α} {k : Nat} (h : k < l.length) (h0 : 0 < k) : joinK sep f (k + 1) l = joinK sep f k l ++ (sep ++ f l[k]) := by
  unfold joinK
  rw [List.map_take, joinL_succ (by simpa using h) h0, ← List.map_take]
  simp
theorem joinK_room0 {α : Type} (sep : List UInt8) (f : α → List UInt8) {l : List α} (h : 0 < l.length) : (f l[0]).length ≤ (joinL sep (l.map f)).length := by
  have := joinL_room0 (sep := sep) (l := l.map f) (by simpa using h)
  simpa using this
theorem joinK_room {α : Type} (sep : List UInt8) (f : α → List UInt8) {l : List α} {k : Nat} (h : k < l.length) (h0 : 0 < k) : (joinK sep f k l).length + (sep.length + (f l[k]).length) ≤ (joinL sep (l.map f)).length := by
  have := joinL_room (sep := sep) (l := l.map f) (by simpa using h) h0
  rw [← List.map_take] at this
  simpa [joinK] using this

/-- What stands behind the variables of a pipeline. -/
def asgD (b : Bool) : List UInt8 := if b then [32, 61, 32] else [32, 58, 61, 32]
theorem ptrT_ne {k : Int} (h : KindOk k) (hk : ¬ k = 13) : ¬ ptrT k = 90 := by
  intro e
  have key := h.cases (q := fun k => ¬ k = 13 → ¬ ptrT k = 90) (by decide) (by decide) (by decide) (by decide) (by decide) (by decide) (by decide) (by decide) (by decide) (by decide) (by decide) (by decide) (by decide) (by decide) (by decide) (by decide) (by decide) (by decide) (by decide) (by decide) (by decide)
  exact key hk e
/-- A node as a value of the interface, and what the walk needs of its method. -/
theorem PN.meth {B d b bt sb : Nat} {w : World} {p : Nd} (h : PN w 0 (· < B) (TrIs (some ⟨bt, 0, none⟩)) d b p) :
    ∃ K F, ptrT p.kind = K ∧ wrF p.kind = F ∧ (∀ w, (method 299 K (.pointer (some ⟨b, 0, none⟩)) "templateparse/pub/tparse.writeTo").run Tryz.prog w = .ok (F, .pointer (some ⟨b, 0, none⟩)) w) ∧ (∀ args w, (callFunc F args).run Tryz.prog w = .ok (.enter F args) w) :=
  ⟨_, _, rfl, rfl, fun w => method_wr h.kindOk b w, hasBody_wr h.kindOk⟩
theorem ptrf_cell (p : Nd) (b : Nat) : ptrf p b = .pointer (some ⟨b, 0, none⟩) := rfl

end Go.Proofs.YtiogfkpclkkoaaaGreat
