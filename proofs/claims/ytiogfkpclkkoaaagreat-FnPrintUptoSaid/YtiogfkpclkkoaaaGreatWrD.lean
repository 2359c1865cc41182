/-
  The writers of the branches. Printed by py/wrb.py.
-/
import Derived.Test.YtiogfkpclkkoaaaGreatWrF
set_option linter.unusedVariables false
set_option linter.unusedSimpArgs false
namespace Go.Proofs.YtiogfkpclkkoaaaGreat
open Go.RowKit

set_option maxHeartbeats 2000000 in
set_option maxRecDepth 100000 in
theorem wr_if0 {B bt sb b d bq br : Nat} {n q r : Nd} {E : TypeId} {l : List UInt8} {w : World} (ih : WrAt B bt sb d) (h : n.kind = 9) (hk : n.kids = [q, r]) (hel : n.hasElse = false) (hqq : PN w 0 (· < B) (TrIs (some ⟨bt, 0, none⟩)) d bq q) (kq : q.kind = ((13 : Nat) : Int)) (nq : Nmd d q) (sq : Sm d q) (hqr : PN w 0 (· < B) (TrIs (some ⟨bt, 0, none⟩)) d br r) (kr : r.kind = ((10 : Nat) : Int)) (nr : Nmd d r) (sr : Sm d r) (hbB : b < B) (hh : w.heap[b]? = some (.cells #[.int .i64 10, .int .i64 0, .pointer (some ⟨bt, 0, none⟩), .int .i64 0, .pointer (some ⟨bq, 0, none⟩), .pointer (some ⟨br, 0, none⟩), .pointer none] E (0, 0))) (he : Env B bt sb l w) (hl : l.length + (pr (d + 1) n).length ≤ 140737488355328) :
    Calls Tryz.prog 146 #[.pointer (some ⟨b, 0, none⟩), .pointer (some ⟨sb, 0, none⟩)] w (WrPost B bt sb w (l ++ pr (d + 1) n)) := by
  have e0 : pr (d + 1) n = lbr ++ [105, 102] ++ [32] ++ pr d q ++ rbr ++ pr d r ++ lbr ++ [101, 110, 100] ++ rbr := by simp [pr, h, hk, hel, firstD, secondD, wordD]
  rw [e0] at hl ⊢
  simp only [List.length_append, List.length_cons, List.length_nil, by'_len, lbr, rbr] at hl
  clear e0 h hk hel
  have Kq := Lib.hid kq
  have Nq := Lib.hid nq
  have Sq := Lib.hid sq
  clear kq nq sq
  have Kr := Lib.hid kr
  have Nr := Lib.hid nr
  have Sr := Lib.hid sr
  clear kr nr sr
  have IH := Lib.hid ih
  clear ih
  have HE0 := Lib.hid he
  have HB0 : Hid (Below B w w) := Lib.hid (Below.refl _ _)
  have HH0 := Lib.hid hh
  have LB := Lib.hid hbB
  have HQq0 := Lib.hid hqq
  have HQr0 := Lib.hid hqr
  clear he hh hbB hqq hqr
  have g0_0 : w.cell? ⟨b, 0, none⟩ = some (.int .i64 10) := cell_of_heap' HH0.out
  have g0_2 : w.cell? ⟨b, 2, none⟩ = some (.pointer (some ⟨bt, 0, none⟩)) := cell_of_heap' HH0.out
  have g0_4 : w.cell? ⟨b, 4, none⟩ = some (.pointer (some ⟨bq, 0, none⟩)) := cell_of_heap' HH0.out
  have g0_5 : w.cell? ⟨b, 5, none⟩ = some (.pointer (some ⟨br, 0, none⟩)) := cell_of_heap' HH0.out
  have g0_6 : w.cell? ⟨b, 6, none⟩ = some (.pointer none) := cell_of_heap' HH0.out
  have t0l := HE0.out.2.2.2.1
  have t0r := HE0.out.2.2.2.2
  go_enter Tryz.func146, Tryz.ntmps146
  go_wp2_with fail
  refine Calls.mono (env_string HE0.out _ [123, 123] rfl (by (try simp only [List.length_append, List.length_cons, List.length_nil, by'_len]); omega)) ?_
  rintro e w1 ⟨rfl, he, hb⟩
  have HE1 := Lib.hid he
  have HB1 := Lib.hid (HB0.out.trans hb)
  have HH1 := Lib.hid (node_later HH0.out LB.out hb)
  have HQq1 := Lib.hid (HQq0.out.low hb)
  have HQr1 := Lib.hid (HQr0.out.low hb)
  clear he hb g0_0 g0_2 g0_4 g0_5 g0_6 t0l t0r
  have g1_0 : w1.cell? ⟨b, 0, none⟩ = some (.int .i64 10) := cell_of_heap' HH1.out
  have g1_2 : w1.cell? ⟨b, 2, none⟩ = some (.pointer (some ⟨bt, 0, none⟩)) := cell_of_heap' HH1.out
  have g1_4 : w1.cell? ⟨b, 4, none⟩ = some (.pointer (some ⟨bq, 0, none⟩)) := cell_of_heap' HH1.out
  have g1_5 : w1.cell? ⟨b, 5, none⟩ = some (.pointer (some ⟨br, 0, none⟩)) := cell_of_heap' HH1.out
  have g1_6 : w1.cell? ⟨b, 6, none⟩ = some (.pointer none) := cell_of_heap' HH1.out
  have t1l := HE1.out.2.2.2.1
  have t1r := HE1.out.2.2.2.2
  go_wp2_with fail
  refine Calls.mono (env_string HE1.out _ [105, 102] rfl (by (try simp only [List.length_append, List.length_cons, List.length_nil, by'_len]); omega)) ?_
  rintro e w2 ⟨rfl, he, hb⟩
  have HE2 := Lib.hid he
  have HB2 := Lib.hid (HB1.out.trans hb)
  have HH2 := Lib.hid (node_later HH1.out LB.out hb)
  have HQq2 := Lib.hid (HQq1.out.low hb)
  have HQr2 := Lib.hid (HQr1.out.low hb)
  clear he hb g1_0 g1_2 g1_4 g1_5 g1_6 t1l t1r
  have g2_0 : w2.cell? ⟨b, 0, none⟩ = some (.int .i64 10) := cell_of_heap' HH2.out
  have g2_2 : w2.cell? ⟨b, 2, none⟩ = some (.pointer (some ⟨bt, 0, none⟩)) := cell_of_heap' HH2.out
  have g2_4 : w2.cell? ⟨b, 4, none⟩ = some (.pointer (some ⟨bq, 0, none⟩)) := cell_of_heap' HH2.out
  have g2_5 : w2.cell? ⟨b, 5, none⟩ = some (.pointer (some ⟨br, 0, none⟩)) := cell_of_heap' HH2.out
  have g2_6 : w2.cell? ⟨b, 6, none⟩ = some (.pointer none) := cell_of_heap' HH2.out
  have t2l := HE2.out.2.2.2.1
  have t2r := HE2.out.2.2.2.2
  go_wp2_with fail
  refine Calls.mono (env_byte HE2.out 32 32 rfl (by (try simp only [List.length_append, List.length_cons, List.length_nil, by'_len]); omega)) ?_
  rintro e w3 ⟨rfl, he, hb⟩
  have HE3 := Lib.hid he
  have HB3 := Lib.hid (HB2.out.trans hb)
  have HH3 := Lib.hid (node_later HH2.out LB.out hb)
  have HQq3 := Lib.hid (HQq2.out.low hb)
  have HQr3 := Lib.hid (HQr2.out.low hb)
  clear he hb g2_0 g2_2 g2_4 g2_5 g2_6 t2l t2r
  have g3_0 : w3.cell? ⟨b, 0, none⟩ = some (.int .i64 10) := cell_of_heap' HH3.out
  have g3_2 : w3.cell? ⟨b, 2, none⟩ = some (.pointer (some ⟨bt, 0, none⟩)) := cell_of_heap' HH3.out
  have g3_4 : w3.cell? ⟨b, 4, none⟩ = some (.pointer (some ⟨bq, 0, none⟩)) := cell_of_heap' HH3.out
  have g3_5 : w3.cell? ⟨b, 5, none⟩ = some (.pointer (some ⟨br, 0, none⟩)) := cell_of_heap' HH3.out
  have g3_6 : w3.cell? ⟨b, 6, none⟩ = some (.pointer none) := cell_of_heap' HH3.out
  have t3l := HE3.out.2.2.2.1
  have t3r := HE3.out.2.2.2.2
  go_wp2_with fail
  refine Calls.mono (wr_at IH.out Kq.out HQq3.out Nq.out Sq.out HE3.out (by (try simp only [List.length_append, List.length_cons, List.length_nil, by'_len]); omega)) ?_
  rintro e w4 ⟨rfl, he, hb⟩
  have HE4 := Lib.hid he
  have HB4 := Lib.hid (HB3.out.trans hb)
  have HH4 := Lib.hid (node_later HH3.out LB.out hb)
  have HQq4 := Lib.hid (HQq3.out.low hb)
  have HQr4 := Lib.hid (HQr3.out.low hb)
  clear he hb g3_0 g3_2 g3_4 g3_5 g3_6 t3l t3r
  have g4_0 : w4.cell? ⟨b, 0, none⟩ = some (.int .i64 10) := cell_of_heap' HH4.out
  have g4_2 : w4.cell? ⟨b, 2, none⟩ = some (.pointer (some ⟨bt, 0, none⟩)) := cell_of_heap' HH4.out
  have g4_4 : w4.cell? ⟨b, 4, none⟩ = some (.pointer (some ⟨bq, 0, none⟩)) := cell_of_heap' HH4.out
  have g4_5 : w4.cell? ⟨b, 5, none⟩ = some (.pointer (some ⟨br, 0, none⟩)) := cell_of_heap' HH4.out
  have g4_6 : w4.cell? ⟨b, 6, none⟩ = some (.pointer none) := cell_of_heap' HH4.out
  have t4l := HE4.out.2.2.2.1
  have t4r := HE4.out.2.2.2.2
  go_wp2_with fail
  refine Calls.mono (env_string HE4.out _ [125, 125] rfl (by (try simp only [List.length_append, List.length_cons, List.length_nil, by'_len]); omega)) ?_
  rintro e w5 ⟨rfl, he, hb⟩
  have HE5 := Lib.hid he
  have HB5 := Lib.hid (HB4.out.trans hb)
  have HH5 := Lib.hid (node_later HH4.out LB.out hb)
  have HQq5 := Lib.hid (HQq4.out.low hb)
  have HQr5 := Lib.hid (HQr4.out.low hb)
  clear he hb g4_0 g4_2 g4_4 g4_5 g4_6 t4l t4r
  have g5_0 : w5.cell? ⟨b, 0, none⟩ = some (.int .i64 10) := cell_of_heap' HH5.out
  have g5_2 : w5.cell? ⟨b, 2, none⟩ = some (.pointer (some ⟨bt, 0, none⟩)) := cell_of_heap' HH5.out
  have g5_4 : w5.cell? ⟨b, 4, none⟩ = some (.pointer (some ⟨bq, 0, none⟩)) := cell_of_heap' HH5.out
  have g5_5 : w5.cell? ⟨b, 5, none⟩ = some (.pointer (some ⟨br, 0, none⟩)) := cell_of_heap' HH5.out
  have g5_6 : w5.cell? ⟨b, 6, none⟩ = some (.pointer none) := cell_of_heap' HH5.out
  have t5l := HE5.out.2.2.2.1
  have t5r := HE5.out.2.2.2.2
  go_wp2_with fail
  refine Calls.mono (wr_at IH.out Kr.out HQr5.out Nr.out Sr.out HE5.out (by (try simp only [List.length_append, List.length_cons, List.length_nil, by'_len]); omega)) ?_
  rintro e w6 ⟨rfl, he, hb⟩
  have HE6 := Lib.hid he
  have HB6 := Lib.hid (HB5.out.trans hb)
  have HH6 := Lib.hid (node_later HH5.out LB.out hb)
  have HQq6 := Lib.hid (HQq5.out.low hb)
  have HQr6 := Lib.hid (HQr5.out.low hb)
  clear he hb g5_0 g5_2 g5_4 g5_5 g5_6 t5l t5r
  have g6_0 : w6.cell? ⟨b, 0, none⟩ = some (.int .i64 10) := cell_of_heap' HH6.out
  have g6_2 : w6.cell? ⟨b, 2, none⟩ = some (.pointer (some ⟨bt, 0, none⟩)) := cell_of_heap' HH6.out
  have g6_4 : w6.cell? ⟨b, 4, none⟩ = some (.pointer (some ⟨bq, 0, none⟩)) := cell_of_heap' HH6.out
  have g6_5 : w6.cell? ⟨b, 5, none⟩ = some (.pointer (some ⟨br, 0, none⟩)) := cell_of_heap' HH6.out
  have g6_6 : w6.cell? ⟨b, 6, none⟩ = some (.pointer none) := cell_of_heap' HH6.out
  have t6l := HE6.out.2.2.2.1
  have t6r := HE6.out.2.2.2.2
  go_wp2_with fail
  refine Calls.mono (env_string HE6.out _ [123, 123] rfl (by (try simp only [List.length_append, List.length_cons, List.length_nil, by'_len]); omega)) ?_
  rintro e w7 ⟨rfl, he, hb⟩
  have HE7 := Lib.hid he
  have HB7 := Lib.hid (HB6.out.trans hb)
  have HH7 := Lib.hid (node_later HH6.out LB.out hb)
  have HQq7 := Lib.hid (HQq6.out.low hb)
  have HQr7 := Lib.hid (HQr6.out.low hb)
  clear he hb g6_0 g6_2 g6_4 g6_5 g6_6 t6l t6r
  have g7_0 : w7.cell? ⟨b, 0, none⟩ = some (.int .i64 10) := cell_of_heap' HH7.out
  have g7_2 : w7.cell? ⟨b, 2, none⟩ = some (.pointer (some ⟨bt, 0, none⟩)) := cell_of_heap' HH7.out
  have g7_4 : w7.cell? ⟨b, 4, none⟩ = some (.pointer (some ⟨bq, 0, none⟩)) := cell_of_heap' HH7.out
  have g7_5 : w7.cell? ⟨b, 5, none⟩ = some (.pointer (some ⟨br, 0, none⟩)) := cell_of_heap' HH7.out
  have g7_6 : w7.cell? ⟨b, 6, none⟩ = some (.pointer none) := cell_of_heap' HH7.out
  have t7l := HE7.out.2.2.2.1
  have t7r := HE7.out.2.2.2.2
  go_wp2_with fail
  refine Calls.mono (env_string HE7.out _ [101, 110, 100] rfl (by (try simp only [List.length_append, List.length_cons, List.length_nil, by'_len]); omega)) ?_
  rintro e w8 ⟨rfl, he, hb⟩
  have HE8 := Lib.hid he
  have HB8 := Lib.hid (HB7.out.trans hb)
  have HH8 := Lib.hid (node_later HH7.out LB.out hb)
  have HQq8 := Lib.hid (HQq7.out.low hb)
  have HQr8 := Lib.hid (HQr7.out.low hb)
  clear he hb g7_0 g7_2 g7_4 g7_5 g7_6 t7l t7r
  have g8_0 : w8.cell? ⟨b, 0, none⟩ = some (.int .i64 10) := cell_of_heap' HH8.out
  have g8_2 : w8.cell? ⟨b, 2, none⟩ = some (.pointer (some ⟨bt, 0, none⟩)) := cell_of_heap' HH8.out
  have g8_4 : w8.cell? ⟨b, 4, none⟩ = some (.pointer (some ⟨bq, 0, none⟩)) := cell_of_heap' HH8.out
  have g8_5 : w8.cell? ⟨b, 5, none⟩ = some (.pointer (some ⟨br, 0, none⟩)) := cell_of_heap' HH8.out
  have g8_6 : w8.cell? ⟨b, 6, none⟩ = some (.pointer none) := cell_of_heap' HH8.out
  have t8l := HE8.out.2.2.2.1
  have t8r := HE8.out.2.2.2.2
  go_wp2_with fail
  refine Calls.mono (env_string HE8.out _ [125, 125] rfl (by (try simp only [List.length_append, List.length_cons, List.length_nil, by'_len]); omega)) ?_
  rintro e w9 ⟨rfl, he, hb⟩
  have HE9 := Lib.hid he
  have HB9 := Lib.hid (HB8.out.trans hb)
  have HH9 := Lib.hid (node_later HH8.out LB.out hb)
  have HQq9 := Lib.hid (HQq8.out.low hb)
  have HQr9 := Lib.hid (HQr8.out.low hb)
  clear he hb g8_0 g8_2 g8_4 g8_5 g8_6 t8l t8r
  have g9_0 : w9.cell? ⟨b, 0, none⟩ = some (.int .i64 10) := cell_of_heap' HH9.out
  have g9_2 : w9.cell? ⟨b, 2, none⟩ = some (.pointer (some ⟨bt, 0, none⟩)) := cell_of_heap' HH9.out
  have g9_4 : w9.cell? ⟨b, 4, none⟩ = some (.pointer (some ⟨bq, 0, none⟩)) := cell_of_heap' HH9.out
  have g9_5 : w9.cell? ⟨b, 5, none⟩ = some (.pointer (some ⟨br, 0, none⟩)) := cell_of_heap' HH9.out
  have g9_6 : w9.cell? ⟨b, 6, none⟩ = some (.pointer none) := cell_of_heap' HH9.out
  have t9l := HE9.out.2.2.2.1
  have t9r := HE9.out.2.2.2.2
  go_wp2
  all_goals (first | go_end0 | refine bodyPost_ret (results_none rfl _ _ _) rfl ?_)
  all_goals exact ⟨rfl, by have h := HE9.out; simpa [lbr, rbr, List.append_assoc] using h, HB9.out⟩

set_option maxHeartbeats 2000000 in
set_option maxRecDepth 100000 in
theorem wr_if1 {B bt sb b d bq br bz : Nat} {n q r z : Nd} {E : TypeId} {l : List UInt8} {w : World} (ih : WrAt B bt sb d) (h : n.kind = 9) (hk : n.kids = [q, r]) (hel : n.hasElse = true) (hels : n.els = [z]) (hqq : PN w 0 (· < B) (TrIs (some ⟨bt, 0, none⟩)) d bq q) (kq : q.kind = ((13 : Nat) : Int)) (nq : Nmd d q) (sq : Sm d q) (hqr : PN w 0 (· < B) (TrIs (some ⟨bt, 0, none⟩)) d br r) (kr : r.kind = ((10 : Nat) : Int)) (nr : Nmd d r) (sr : Sm d r) (hqz : PN w 0 (· < B) (TrIs (some ⟨bt, 0, none⟩)) d bz z) (kz : z.kind = ((10 : Nat) : Int)) (nz : Nmd d z) (sz : Sm d z) (hbB : b < B) (hh : w.heap[b]? = some (.cells #[.int .i64 10, .int .i64 0, .pointer (some ⟨bt, 0, none⟩), .int .i64 0, .pointer (some ⟨bq, 0, none⟩), .pointer (some ⟨br, 0, none⟩), .pointer (some ⟨bz, 0, none⟩)] E (0, 0))) (he : Env B bt sb l w) (hl : l.length + (pr (d + 1) n).length ≤ 140737488355328) :
    Calls Tryz.prog 146 #[.pointer (some ⟨b, 0, none⟩), .pointer (some ⟨sb, 0, none⟩)] w (WrPost B bt sb w (l ++ pr (d + 1) n)) := by
  have e0 : pr (d + 1) n = lbr ++ [105, 102] ++ [32] ++ pr d q ++ rbr ++ pr d r ++ (lbr ++ [101, 108, 115, 101] ++ rbr ++ pr d z) ++ lbr ++ [101, 110, 100] ++ rbr := by simp [pr, h, hk, hel, hels, firstD, secondD, wordD]
  rw [e0] at hl ⊢
  simp only [List.length_append, List.length_cons, List.length_nil, by'_len, lbr, rbr] at hl
  clear e0 h hk hel hels
  have Kq := Lib.hid kq
  have Nq := Lib.hid nq
  have Sq := Lib.hid sq
  clear kq nq sq
  have Kr := Lib.hid kr
  have Nr := Lib.hid nr
  have Sr := Lib.hid sr
  clear kr nr sr
  have Kz := Lib.hid kz
  have Nz := Lib.hid nz
  have Sz := Lib.hid sz
  clear kz nz sz
  have IH := Lib.hid ih
  clear ih
  have HE0 := Lib.hid he
  have HB0 : Hid (Below B w w) := Lib.hid (Below.refl _ _)
  have HH0 := Lib.hid hh
  have LB := Lib.hid hbB
  have HQq0 := Lib.hid hqq
  have HQr0 := Lib.hid hqr
  have HQz0 := Lib.hid hqz
  clear he hh hbB hqq hqr hqz
  have g0_0 : w.cell? ⟨b, 0, none⟩ = some (.int .i64 10) := cell_of_heap' HH0.out
  have g0_2 : w.cell? ⟨b, 2, none⟩ = some (.pointer (some ⟨bt, 0, none⟩)) := cell_of_heap' HH0.out
  have g0_4 : w.cell? ⟨b, 4, none⟩ = some (.pointer (some ⟨bq, 0, none⟩)) := cell_of_heap' HH0.out
  have g0_5 : w.cell? ⟨b, 5, none⟩ = some (.pointer (some ⟨br, 0, none⟩)) := cell_of_heap' HH0.out
  have g0_6 : w.cell? ⟨b, 6, none⟩ = some (.pointer (some ⟨bz, 0, none⟩)) := cell_of_heap' HH0.out
  have t0l := HE0.out.2.2.2.1
  have t0r := HE0.out.2.2.2.2
  go_enter Tryz.func146, Tryz.ntmps146
  go_wp2_with fail
  refine Calls.mono (env_string HE0.out _ [123, 123] rfl (by (try simp only [List.length_append, List.length_cons, List.length_nil, by'_len]); omega)) ?_
  rintro e w1 ⟨rfl, he, hb⟩
  have HE1 := Lib.hid he
  have HB1 := Lib.hid (HB0.out.trans hb)
  have HH1 := Lib.hid (node_later HH0.out LB.out hb)
  have HQq1 := Lib.hid (HQq0.out.low hb)
  have HQr1 := Lib.hid (HQr0.out.low hb)
  have HQz1 := Lib.hid (HQz0.out.low hb)
  clear he hb g0_0 g0_2 g0_4 g0_5 g0_6 t0l t0r
  have g1_0 : w1.cell? ⟨b, 0, none⟩ = some (.int .i64 10) := cell_of_heap' HH1.out
  have g1_2 : w1.cell? ⟨b, 2, none⟩ = some (.pointer (some ⟨bt, 0, none⟩)) := cell_of_heap' HH1.out
  have g1_4 : w1.cell? ⟨b, 4, none⟩ = some (.pointer (some ⟨bq, 0, none⟩)) := cell_of_heap' HH1.out
  have g1_5 : w1.cell? ⟨b, 5, none⟩ = some (.pointer (some ⟨br, 0, none⟩)) := cell_of_heap' HH1.out
  have g1_6 : w1.cell? ⟨b, 6, none⟩ = some (.pointer (some ⟨bz, 0, none⟩)) := cell_of_heap' HH1.out
  have t1l := HE1.out.2.2.2.1
  have t1r := HE1.out.2.2.2.2
  go_wp2_with fail
  refine Calls.mono (env_string HE1.out _ [105, 102] rfl (by (try simp only [List.length_append, List.length_cons, List.length_nil, by'_len]); omega)) ?_
  rintro e w2 ⟨rfl, he, hb⟩
  have HE2 := Lib.hid he
  have HB2 := Lib.hid (HB1.out.trans hb)
  have HH2 := Lib.hid (node_later HH1.out LB.out hb)
  have HQq2 := Lib.hid (HQq1.out.low hb)
  have HQr2 := Lib.hid (HQr1.out.low hb)
  have HQz2 := Lib.hid (HQz1.out.low hb)
  clear he hb g1_0 g1_2 g1_4 g1_5 g1_6 t1l t1r
  have g2_0 : w2.cell? ⟨b, 0, none⟩ = some (.int .i64 10) := cell_of_heap' HH2.out
  have g2_2 : w2.cell? ⟨b, 2, none⟩ = some (.pointer (some ⟨bt, 0, none⟩)) := cell_of_heap' HH2.out
  have g2_4 : w2.cell? ⟨b, 4, none⟩ = some (.pointer (some ⟨bq, 0, none⟩)) := cell_of_heap' HH2.out
  have g2_5 : w2.cell? ⟨b, 5, none⟩ = some (.pointer (some ⟨br, 0, none⟩)) := cell_of_heap' HH2.out
  have g2_6 : w2.cell? ⟨b, 6, none⟩ = some (.pointer (some ⟨bz, 0, none⟩)) := cell_of_heap' HH2.out
  have t2l := HE2.out.2.2.2.1
  have t2r := HE2.out.2.2.2.2
  go_wp2_with fail
  refine Calls.mono (env_byte HE2.out 32 32 rfl (by (try simp only [List.length_append, List.length_cons, List.length_nil, by'_len]); omega)) ?_
  rintro e w3 ⟨rfl, he, hb⟩
  have HE3 := Lib.hid he
  have HB3 := Lib.hid (HB2.out.trans hb)
  have HH3 := Lib.hid (node_later HH2.out LB.out hb)
  have HQq3 := Lib.hid (HQq2.out.low hb)
  have HQr3 := Lib.hid (HQr2.out.low hb)
  have HQz3 := Lib.hid (HQz2.out.low hb)
  clear he hb g2_0 g2_2 g2_4 g2_5 g2_6 t2l t2r
  have g3_0 : w3.cell? ⟨b, 0, none⟩ = some (.int .i64 10) := cell_of_heap' HH3.out
  have g3_2 : w3.cell? ⟨b, 2, none⟩ = some (.pointer (some ⟨bt, 0, none⟩)) := cell_of_heap' HH3.out
  have g3_4 : w3.cell? ⟨b, 4, none⟩ = some (.pointer (some ⟨bq, 0, none⟩)) := cell_of_heap' HH3.out
  have g3_5 : w3.cell? ⟨b, 5, none⟩ = some (.pointer (some ⟨br, 0, none⟩)) := cell_of_heap' HH3.out
  have g3_6 : w3.cell? ⟨b, 6, none⟩ = some (.pointer (some ⟨bz, 0, none⟩)) := cell_of_heap' HH3.out
  have t3l := HE3.out.2.2.2.1
  have t3r := HE3.out.2.2.2.2
  go_wp2_with fail
  refine Calls.mono (wr_at IH.out Kq.out HQq3.out Nq.out Sq.out HE3.out (by (try simp only [List.length_append, List.length_cons, List.length_nil, by'_len]); omega)) ?_
  rintro e w4 ⟨rfl, he, hb⟩
  have HE4 := Lib.hid he
  have HB4 := Lib.hid (HB3.out.trans hb)
  have HH4 := Lib.hid (node_later HH3.out LB.out hb)
  have HQq4 := Lib.hid (HQq3.out.low hb)
  have HQr4 := Lib.hid (HQr3.out.low hb)
  have HQz4 := Lib.hid (HQz3.out.low hb)
  clear he hb g3_0 g3_2 g3_4 g3_5 g3_6 t3l t3r
  have g4_0 : w4.cell? ⟨b, 0, none⟩ = some (.int .i64 10) := cell_of_heap' HH4.out
  have g4_2 : w4.cell? ⟨b, 2, none⟩ = some (.pointer (some ⟨bt, 0, none⟩)) := cell_of_heap' HH4.out
  have g4_4 : w4.cell? ⟨b, 4, none⟩ = some (.pointer (some ⟨bq, 0, none⟩)) := cell_of_heap' HH4.out
  have g4_5 : w4.cell? ⟨b, 5, none⟩ = some (.pointer (some ⟨br, 0, none⟩)) := cell_of_heap' HH4.out
  have g4_6 : w4.cell? ⟨b, 6, none⟩ = some (.pointer (some ⟨bz, 0, none⟩)) := cell_of_heap' HH4.out
  have t4l := HE4.out.2.2.2.1
  have t4r := HE4.out.2.2.2.2
  go_wp2_with fail
  refine Calls.mono (env_string HE4.out _ [125, 125] rfl (by (try simp only [List.length_append, List.length_cons, List.length_nil, by'_len]); omega)) ?_
  rintro e w5 ⟨rfl, he, hb⟩
  have HE5 := Lib.hid he
  have HB5 := Lib.hid (HB4.out.trans hb)
  have HH5 := Lib.hid (node_later HH4.out LB.out hb)
  have HQq5 := Lib.hid (HQq4.out.low hb)
  have HQr5 := Lib.hid (HQr4.out.low hb)
  have HQz5 := Lib.hid (HQz4.out.low hb)
  clear he hb g4_0 g4_2 g4_4 g4_5 g4_6 t4l t4r
  have g5_0 : w5.cell? ⟨b, 0, none⟩ = some (.int .i64 10) := cell_of_heap' HH5.out
  have g5_2 : w5.cell? ⟨b, 2, none⟩ = some (.pointer (some ⟨bt, 0, none⟩)) := cell_of_heap' HH5.out
  have g5_4 : w5.cell? ⟨b, 4, none⟩ = some (.pointer (some ⟨bq, 0, none⟩)) := cell_of_heap' HH5.out
  have g5_5 : w5.cell? ⟨b, 5, none⟩ = some (.pointer (some ⟨br, 0, none⟩)) := cell_of_heap' HH5.out
  have g5_6 : w5.cell? ⟨b, 6, none⟩ = some (.pointer (some ⟨bz, 0, none⟩)) := cell_of_heap' HH5.out
  have t5l := HE5.out.2.2.2.1
  have t5r := HE5.out.2.2.2.2
  go_wp2_with fail
  refine Calls.mono (wr_at IH.out Kr.out HQr5.out Nr.out Sr.out HE5.out (by (try simp only [List.length_append, List.length_cons, List.length_nil, by'_len]); omega)) ?_
  rintro e w6 ⟨rfl, he, hb⟩
  have HE6 := Lib.hid he
  have HB6 := Lib.hid (HB5.out.trans hb)
  have HH6 := Lib.hid (node_later HH5.out LB.out hb)
  have HQq6 := Lib.hid (HQq5.out.low hb)
  have HQr6 := Lib.hid (HQr5.out.low hb)
  have HQz6 := Lib.hid (HQz5.out.low hb)
  clear he hb g5_0 g5_2 g5_4 g5_5 g5_6 t5l t5r
  have g6_0 : w6.cell? ⟨b, 0, none⟩ = some (.int .i64 10) := cell_of_heap' HH6.out
  have g6_2 : w6.cell? ⟨b, 2, none⟩ = some (.pointer (some ⟨bt, 0, none⟩)) := cell_of_heap' HH6.out
  have g6_4 : w6.cell? ⟨b, 4, none⟩ = some (.pointer (some ⟨bq, 0, none⟩)) := cell_of_heap' HH6.out
  have g6_5 : w6.cell? ⟨b, 5, none⟩ = some (.pointer (some ⟨br, 0, none⟩)) := cell_of_heap' HH6.out
  have g6_6 : w6.cell? ⟨b, 6, none⟩ = some (.pointer (some ⟨bz, 0, none⟩)) := cell_of_heap' HH6.out
  have t6l := HE6.out.2.2.2.1
  have t6r := HE6.out.2.2.2.2
  go_wp2_with fail
  refine Calls.mono (env_string HE6.out _ [123, 123] rfl (by (try simp only [List.length_append, List.length_cons, List.length_nil, by'_len]); omega)) ?_
  rintro e w7 ⟨rfl, he, hb⟩
  have HE7 := Lib.hid he
  have HB7 := Lib.hid (HB6.out.trans hb)
  have HH7 := Lib.hid (node_later HH6.out LB.out hb)
  have HQq7 := Lib.hid (HQq6.out.low hb)
  have HQr7 := Lib.hid (HQr6.out.low hb)
  have HQz7 := Lib.hid (HQz6.out.low hb)
  clear he hb g6_0 g6_2 g6_4 g6_5 g6_6 t6l t6r
  have g7_0 : w7.cell? ⟨b, 0, none⟩ = some (.int .i64 10) := cell_of_heap' HH7.out
  have g7_2 : w7.cell? ⟨b, 2, none⟩ = some (.pointer (some ⟨bt, 0, none⟩)) := cell_of_heap' HH7.out
  have g7_4 : w7.cell? ⟨b, 4, none⟩ = some (.pointer (some ⟨bq, 0, none⟩)) := cell_of_heap' HH7.out
  have g7_5 : w7.cell? ⟨b, 5, none⟩ = some (.pointer (some ⟨br, 0, none⟩)) := cell_of_heap' HH7.out
  have g7_6 : w7.cell? ⟨b, 6, none⟩ = some (.pointer (some ⟨bz, 0, none⟩)) := cell_of_heap' HH7.out
  have t7l := HE7.out.2.2.2.1
  have t7r := HE7.out.2.2.2.2
  go_wp2_with fail
  refine Calls.mono (env_string HE7.out _ [101, 108, 115, 101] rfl (by (try simp only [List.length_append, List.length_cons, List.length_nil, by'_len]); omega)) ?_
  rintro e w8 ⟨rfl, he, hb⟩
  have HE8 := Lib.hid he
  have HB8 := Lib.hid (HB7.out.trans hb)
  have HH8 := Lib.hid (node_later HH7.out LB.out hb)
  have HQq8 := Lib.hid (HQq7.out.low hb)
  have HQr8 := Lib.hid (HQr7.out.low hb)
  have HQz8 := Lib.hid (HQz7.out.low hb)
  clear he hb g7_0 g7_2 g7_4 g7_5 g7_6 t7l t7r
  have g8_0 : w8.cell? ⟨b, 0, none⟩ = some (.int .i64 10) := cell_of_heap' HH8.out
  have g8_2 : w8.cell? ⟨b, 2, none⟩ = some (.pointer (some ⟨bt, 0, none⟩)) := cell_of_heap' HH8.out
  have g8_4 : w8.cell? ⟨b, 4, none⟩ = some (.pointer (some ⟨bq, 0, none⟩)) := cell_of_heap' HH8.out
  have g8_5 : w8.cell? ⟨b, 5, none⟩ = some (.pointer (some ⟨br, 0, none⟩)) := cell_of_heap' HH8.out
  have g8_6 : w8.cell? ⟨b, 6, none⟩ = some (.pointer (some ⟨bz, 0, none⟩)) := cell_of_heap' HH8.out
  have t8l := HE8.out.2.2.2.1
  have t8r := HE8.out.2.2.2.2
  go_wp2_with fail
  refine Calls.mono (env_string HE8.out _ [125, 125] rfl (by (try simp only [List.length_append, List.length_cons, List.length_nil, by'_len]); omega)) ?_
  rintro e w9 ⟨rfl, he, hb⟩
  have HE9 := Lib.hid he
  have HB9 := Lib.hid (HB8.out.trans hb)
  have HH9 := Lib.hid (node_later HH8.out LB.out hb)
  have HQq9 := Lib.hid (HQq8.out.low hb)
  have HQr9 := Lib.hid (HQr8.out.low hb)
  have HQz9 := Lib.hid (HQz8.out.low hb)
  clear he hb g8_0 g8_2 g8_4 g8_5 g8_6 t8l t8r
  have g9_0 : w9.cell? ⟨b, 0, none⟩ = some (.int .i64 10) := cell_of_heap' HH9.out
  have g9_2 : w9.cell? ⟨b, 2, none⟩ = some (.pointer (some ⟨bt, 0, none⟩)) := cell_of_heap' HH9.out
  have g9_4 : w9.cell? ⟨b, 4, none⟩ = some (.pointer (some ⟨bq, 0, none⟩)) := cell_of_heap' HH9.out
  have g9_5 : w9.cell? ⟨b, 5, none⟩ = some (.pointer (some ⟨br, 0, none⟩)) := cell_of_heap' HH9.out
  have g9_6 : w9.cell? ⟨b, 6, none⟩ = some (.pointer (some ⟨bz, 0, none⟩)) := cell_of_heap' HH9.out
  have t9l := HE9.out.2.2.2.1
  have t9r := HE9.out.2.2.2.2
  go_wp2_with fail
  refine Calls.mono (wr_at IH.out Kz.out HQz9.out Nz.out Sz.out HE9.out (by (try simp only [List.length_append, List.length_cons, List.length_nil, by'_len]); omega)) ?_
  rintro e w10 ⟨rfl, he, hb⟩
  have HE10 := Lib.hid he
  have HB10 := Lib.hid (HB9.out.trans hb)
  have HH10 := Lib.hid (node_later HH9.out LB.out hb)
  have HQq10 := Lib.hid (HQq9.out.low hb)
  have HQr10 := Lib.hid (HQr9.out.low hb)
  have HQz10 := Lib.hid (HQz9.out.low hb)
  clear he hb g9_0 g9_2 g9_4 g9_5 g9_6 t9l t9r
  have g10_0 : w10.cell? ⟨b, 0, none⟩ = some (.int .i64 10) := cell_of_heap' HH10.out
  have g10_2 : w10.cell? ⟨b, 2, none⟩ = some (.pointer (some ⟨bt, 0, none⟩)) := cell_of_heap' HH10.out
  have g10_4 : w10.cell? ⟨b, 4, none⟩ = some (.pointer (some ⟨bq, 0, none⟩)) := cell_of_heap' HH10.out
  have g10_5 : w10.cell? ⟨b, 5, none⟩ = some (.pointer (some ⟨br, 0, none⟩)) := cell_of_heap' HH10.out
  have g10_6 : w10.cell? ⟨b, 6, none⟩ = some (.pointer (some ⟨bz, 0, none⟩)) := cell_of_heap' HH10.out
  have t10l := HE10.out.2.2.2.1
  have t10r := HE10.out.2.2.2.2
  go_wp2_with fail
  refine Calls.mono (env_string HE10.out _ [123, 123] rfl (by (try simp only [List.length_append, List.length_cons, List.length_nil, by'_len]); omega)) ?_
  rintro e w11 ⟨rfl, he, hb⟩
  have HE11 := Lib.hid he
  have HB11 := Lib.hid (HB10.out.trans hb)
  have HH11 := Lib.hid (node_later HH10.out LB.out hb)
  have HQq11 := Lib.hid (HQq10.out.low hb)
  have HQr11 := Lib.hid (HQr10.out.low hb)
  have HQz11 := Lib.hid (HQz10.out.low hb)
  clear he hb g10_0 g10_2 g10_4 g10_5 g10_6 t10l t10r
  have g11_0 : w11.cell? ⟨b, 0, none⟩ = some (.int .i64 10) := cell_of_heap' HH11.out
  have g11_2 : w11.cell? ⟨b, 2, none⟩ = some (.pointer (some ⟨bt, 0, none⟩)) := cell_of_heap' HH11.out
  have g11_4 : w11.cell? ⟨b, 4, none⟩ = some (.pointer (some ⟨bq, 0, none⟩)) := cell_of_heap' HH11.out
  have g11_5 : w11.cell? ⟨b, 5, none⟩ = some (.pointer (some ⟨br, 0, none⟩)) := cell_of_heap' HH11.out
  have g11_6 : w11.cell? ⟨b, 6, none⟩ = some (.pointer (some ⟨bz, 0, none⟩)) := cell_of_heap' HH11.out
  have t11l := HE11.out.2.2.2.1
  have t11r := HE11.out.2.2.2.2
  go_wp2_with fail
  refine Calls.mono (env_string HE11.out _ [101, 110, 100] rfl (by (try simp only [List.length_append, List.length_cons, List.length_nil, by'_len]); omega)) ?_
  rintro e w12 ⟨rfl, he, hb⟩
  have HE12 := Lib.hid he
  have HB12 := Lib.hid (HB11.out.trans hb)
  have HH12 := Lib.hid (node_later HH11.out LB.out hb)
  have HQq12 := Lib.hid (HQq11.out.low hb)
  have HQr12 := Lib.hid (HQr11.out.low hb)
  have HQz12 := Lib.hid (HQz11.out.low hb)
  clear he hb g11_0 g11_2 g11_4 g11_5 g11_6 t11l t11r
  have g12_0 : w12.cell? ⟨b, 0, none⟩ = some (.int .i64 10) := cell_of_heap' HH12.out
  have g12_2 : w12.cell? ⟨b, 2, none⟩ = some (.pointer (some ⟨bt, 0, none⟩)) := cell_of_heap' HH12.out
  have g12_4 : w12.cell? ⟨b, 4, none⟩ = some (.pointer (some ⟨bq, 0, none⟩)) := cell_of_heap' HH12.out
  have g12_5 : w12.cell? ⟨b, 5, none⟩ = some (.pointer (some ⟨br, 0, none⟩)) := cell_of_heap' HH12.out
  have g12_6 : w12.cell? ⟨b, 6, none⟩ = some (.pointer (some ⟨bz, 0, none⟩)) := cell_of_heap' HH12.out
  have t12l := HE12.out.2.2.2.1
  have t12r := HE12.out.2.2.2.2
  go_wp2_with fail
  refine Calls.mono (env_string HE12.out _ [125, 125] rfl (by (try simp only [List.length_append, List.length_cons, List.length_nil, by'_len]); omega)) ?_
  rintro e w13 ⟨rfl, he, hb⟩
  have HE13 := Lib.hid he
  have HB13 := Lib.hid (HB12.out.trans hb)
  have HH13 := Lib.hid (node_later HH12.out LB.out hb)
  have HQq13 := Lib.hid (HQq12.out.low hb)
  have HQr13 := Lib.hid (HQr12.out.low hb)
  have HQz13 := Lib.hid (HQz12.out.low hb)
  clear he hb g12_0 g12_2 g12_4 g12_5 g12_6 t12l t12r
  have g13_0 : w13.cell? ⟨b, 0, none⟩ = some (.int .i64 10) := cell_of_heap' HH13.out
  have g13_2 : w13.cell? ⟨b, 2, none⟩ = some (.pointer (some ⟨bt, 0, none⟩)) := cell_of_heap' HH13.out
  have g13_4 : w13.cell? ⟨b, 4, none⟩ = some (.pointer (some ⟨bq, 0, none⟩)) := cell_of_heap' HH13.out
  have g13_5 : w13.cell? ⟨b, 5, none⟩ = some (.pointer (some ⟨br, 0, none⟩)) := cell_of_heap' HH13.out
  have g13_6 : w13.cell? ⟨b, 6, none⟩ = some (.pointer (some ⟨bz, 0, none⟩)) := cell_of_heap' HH13.out
  have t13l := HE13.out.2.2.2.1
  have t13r := HE13.out.2.2.2.2
  go_wp2
  all_goals (first | go_end0 | refine bodyPost_ret (results_none rfl _ _ _) rfl ?_)
  all_goals exact ⟨rfl, by have h := HE13.out; simpa [lbr, rbr, List.append_assoc] using h, HB13.out⟩

set_option maxHeartbeats 2000000 in
set_option maxRecDepth 100000 in
theorem wr_range0 {B bt sb b d bq br : Nat} {n q r : Nd} {E : TypeId} {l : List UInt8} {w : World} (ih : WrAt B bt sb d) (h : n.kind = 14) (hk : n.kids = [q, r]) (hel : n.hasElse = false) (hqq : PN w 0 (· < B) (TrIs (some ⟨bt, 0, none⟩)) d bq q) (kq : q.kind = ((13 : Nat) : Int)) (nq : Nmd d q) (sq : Sm d q) (hqr : PN w 0 (· < B) (TrIs (some ⟨bt, 0, none⟩)) d br r) (kr : r.kind = ((10 : Nat) : Int)) (nr : Nmd d r) (sr : Sm d r) (hbB : b < B) (hh : w.heap[b]? = some (.cells #[.int .i64 15, .int .i64 0, .pointer (some ⟨bt, 0, none⟩), .int .i64 0, .pointer (some ⟨bq, 0, none⟩), .pointer (some ⟨br, 0, none⟩), .pointer none] E (0, 0))) (he : Env B bt sb l w) (hl : l.length + (pr (d + 1) n).length ≤ 140737488355328) :
    Calls Tryz.prog 146 #[.pointer (some ⟨b, 0, none⟩), .pointer (some ⟨sb, 0, none⟩)] w (WrPost B bt sb w (l ++ pr (d + 1) n)) := by
  have e0 : pr (d + 1) n = lbr ++ [114, 97, 110, 103, 101] ++ [32] ++ pr d q ++ rbr ++ pr d r ++ lbr ++ [101, 110, 100] ++ rbr := by simp [pr, h, hk, hel, firstD, secondD, wordD]
  rw [e0] at hl ⊢
  simp only [List.length_append, List.length_cons, List.length_nil, by'_len, lbr, rbr] at hl
  clear e0 h hk hel
  have Kq := Lib.hid kq
  have Nq := Lib.hid nq
  have Sq := Lib.hid sq
  clear kq nq sq
  have Kr := Lib.hid kr
  have Nr := Lib.hid nr
  have Sr := Lib.hid sr
  clear kr nr sr
  have IH := Lib.hid ih
  clear ih
  have HE0 := Lib.hid he
  have HB0 : Hid (Below B w w) := Lib.hid (Below.refl _ _)
  have HH0 := Lib.hid hh
  have LB := Lib.hid hbB
  have HQq0 := Lib.hid hqq
  have HQr0 := Lib.hid hqr
  clear he hh hbB hqq hqr
  have g0_0 : w.cell? ⟨b, 0, none⟩ = some (.int .i64 15) := cell_of_heap' HH0.out
  have g0_2 : w.cell? ⟨b, 2, none⟩ = some (.pointer (some ⟨bt, 0, none⟩)) := cell_of_heap' HH0.out
  have g0_4 : w.cell? ⟨b, 4, none⟩ = some (.pointer (some ⟨bq, 0, none⟩)) := cell_of_heap' HH0.out
  have g0_5 : w.cell? ⟨b, 5, none⟩ = some (.pointer (some ⟨br, 0, none⟩)) := cell_of_heap' HH0.out
  have g0_6 : w.cell? ⟨b, 6, none⟩ = some (.pointer none) := cell_of_heap' HH0.out
  have t0l := HE0.out.2.2.2.1
  have t0r := HE0.out.2.2.2.2
  go_enter Tryz.func146, Tryz.ntmps146
  go_wp2_with fail
  refine Calls.mono (env_string HE0.out _ [123, 123] rfl (by (try simp only [List.length_append, List.length_cons, List.length_nil, by'_len]); omega)) ?_
  rintro e w1 ⟨rfl, he, hb⟩
  have HE1 := Lib.hid he
  have HB1 := Lib.hid (HB0.out.trans hb)
  have HH1 := Lib.hid (node_later HH0.out LB.out hb)
  have HQq1 := Lib.hid (HQq0.out.low hb)
  have HQr1 := Lib.hid (HQr0.out.low hb)
  clear he hb g0_0 g0_2 g0_4 g0_5 g0_6 t0l t0r
  have g1_0 : w1.cell? ⟨b, 0, none⟩ = some (.int .i64 15) := cell_of_heap' HH1.out
  have g1_2 : w1.cell? ⟨b, 2, none⟩ = some (.pointer (some ⟨bt, 0, none⟩)) := cell_of_heap' HH1.out
  have g1_4 : w1.cell? ⟨b, 4, none⟩ = some (.pointer (some ⟨bq, 0, none⟩)) := cell_of_heap' HH1.out
  have g1_5 : w1.cell? ⟨b, 5, none⟩ = some (.pointer (some ⟨br, 0, none⟩)) := cell_of_heap' HH1.out
  have g1_6 : w1.cell? ⟨b, 6, none⟩ = some (.pointer none) := cell_of_heap' HH1.out
  have t1l := HE1.out.2.2.2.1
  have t1r := HE1.out.2.2.2.2
  go_wp2_with fail
  refine Calls.mono (env_string HE1.out _ [114, 97, 110, 103, 101] rfl (by (try simp only [List.length_append, List.length_cons, List.length_nil, by'_len]); omega)) ?_
  rintro e w2 ⟨rfl, he, hb⟩
  have HE2 := Lib.hid he
  have HB2 := Lib.hid (HB1.out.trans hb)
  have HH2 := Lib.hid (node_later HH1.out LB.out hb)
  have HQq2 := Lib.hid (HQq1.out.low hb)
  have HQr2 := Lib.hid (HQr1.out.low hb)
  clear he hb g1_0 g1_2 g1_4 g1_5 g1_6 t1l t1r
  have g2_0 : w2.cell? ⟨b, 0, none⟩ = some (.int .i64 15) := cell_of_heap' HH2.out
  have g2_2 : w2.cell? ⟨b, 2, none⟩ = some (.pointer (some ⟨bt, 0, none⟩)) := cell_of_heap' HH2.out
  have g2_4 : w2.cell? ⟨b, 4, none⟩ = some (.pointer (some ⟨bq, 0, none⟩)) := cell_of_heap' HH2.out
  have g2_5 : w2.cell? ⟨b, 5, none⟩ = some (.pointer (some ⟨br, 0, none⟩)) := cell_of_heap' HH2.out
  have g2_6 : w2.cell? ⟨b, 6, none⟩ = some (.pointer none) := cell_of_heap' HH2.out
  have t2l := HE2.out.2.2.2.1
  have t2r := HE2.out.2.2.2.2
  go_wp2_with fail
  refine Calls.mono (env_byte HE2.out 32 32 rfl (by (try simp only [List.length_append, List.length_cons, List.length_nil, by'_len]); omega)) ?_
  rintro e w3 ⟨rfl, he, hb⟩
  have HE3 := Lib.hid he
  have HB3 := Lib.hid (HB2.out.trans hb)
  have HH3 := Lib.hid (node_later HH2.out LB.out hb)
  have HQq3 := Lib.hid (HQq2.out.low hb)
  have HQr3 := Lib.hid (HQr2.out.low hb)
  clear he hb g2_0 g2_2 g2_4 g2_5 g2_6 t2l t2r
  have g3_0 : w3.cell? ⟨b, 0, none⟩ = some (.int .i64 15) := cell_of_heap' HH3.out
  have g3_2 : w3.cell? ⟨b, 2, none⟩ = some (.pointer (some ⟨bt, 0, none⟩)) := cell_of_heap' HH3.out
  have g3_4 : w3.cell? ⟨b, 4, none⟩ = some (.pointer (some ⟨bq, 0, none⟩)) := cell_of_heap' HH3.out
  have g3_5 : w3.cell? ⟨b, 5, none⟩ = some (.pointer (some ⟨br, 0, none⟩)) := cell_of_heap' HH3.out
  have g3_6 : w3.cell? ⟨b, 6, none⟩ = some (.pointer none) := cell_of_heap' HH3.out
  have t3l := HE3.out.2.2.2.1
  have t3r := HE3.out.2.2.2.2
  go_wp2_with fail
  refine Calls.mono (wr_at IH.out Kq.out HQq3.out Nq.out Sq.out HE3.out (by (try simp only [List.length_append, List.length_cons, List.length_nil, by'_len]); omega)) ?_
  rintro e w4 ⟨rfl, he, hb⟩
  have HE4 := Lib.hid he
  have HB4 := Lib.hid (HB3.out.trans hb)
  have HH4 := Lib.hid (node_later HH3.out LB.out hb)
  have HQq4 := Lib.hid (HQq3.out.low hb)
  have HQr4 := Lib.hid (HQr3.out.low hb)
  clear he hb g3_0 g3_2 g3_4 g3_5 g3_6 t3l t3r
  have g4_0 : w4.cell? ⟨b, 0, none⟩ = some (.int .i64 15) := cell_of_heap' HH4.out
  have g4_2 : w4.cell? ⟨b, 2, none⟩ = some (.pointer (some ⟨bt, 0, none⟩)) := cell_of_heap' HH4.out
  have g4_4 : w4.cell? ⟨b, 4, none⟩ = some (.pointer (some ⟨bq, 0, none⟩)) := cell_of_heap' HH4.out
  have g4_5 : w4.cell? ⟨b, 5, none⟩ = some (.pointer (some ⟨br, 0, none⟩)) := cell_of_heap' HH4.out
  have g4_6 : w4.cell? ⟨b, 6, none⟩ = some (.pointer none) := cell_of_heap' HH4.out
  have t4l := HE4.out.2.2.2.1
  have t4r := HE4.out.2.2.2.2
  go_wp2_with fail
  refine Calls.mono (env_string HE4.out _ [125, 125] rfl (by (try simp only [List.length_append, List.length_cons, List.length_nil, by'_len]); omega)) ?_
  rintro e w5 ⟨rfl, he, hb⟩
  have HE5 := Lib.hid he
  have HB5 := Lib.hid (HB4.out.trans hb)
  have HH5 := Lib.hid (node_later HH4.out LB.out hb)
  have HQq5 := Lib.hid (HQq4.out.low hb)
  have HQr5 := Lib.hid (HQr4.out.low hb)
  clear he hb g4_0 g4_2 g4_4 g4_5 g4_6 t4l t4r
  have g5_0 : w5.cell? ⟨b, 0, none⟩ = some (.int .i64 15) := cell_of_heap' HH5.out
  have g5_2 : w5.cell? ⟨b, 2, none⟩ = some (.pointer (some ⟨bt, 0, none⟩)) := cell_of_heap' HH5.out
  have g5_4 : w5.cell? ⟨b, 4, none⟩ = some (.pointer (some ⟨bq, 0, none⟩)) := cell_of_heap' HH5.out
  have g5_5 : w5.cell? ⟨b, 5, none⟩ = some (.pointer (some ⟨br, 0, none⟩)) := cell_of_heap' HH5.out
  have g5_6 : w5.cell? ⟨b, 6, none⟩ = some (.pointer none) := cell_of_heap' HH5.out
  have t5l := HE5.out.2.2.2.1
  have t5r := HE5.out.2.2.2.2
  go_wp2_with fail
  refine Calls.mono (wr_at IH.out Kr.out HQr5.out Nr.out Sr.out HE5.out (by (try simp only [List.length_append, List.length_cons, List.length_nil, by'_len]); omega)) ?_
  rintro e w6 ⟨rfl, he, hb⟩
  have HE6 := Lib.hid he
  have HB6 := Lib.hid (HB5.out.trans hb)
  have HH6 := Lib.hid (node_later HH5.out LB.out hb)
  have HQq6 := Lib.hid (HQq5.out.low hb)
  have HQr6 := Lib.hid (HQr5.out.low hb)
  clear he hb g5_0 g5_2 g5_4 g5_5 g5_6 t5l t5r
  have g6_0 : w6.cell? ⟨b, 0, none⟩ = some (.int .i64 15) := cell_of_heap' HH6.out
  have g6_2 : w6.cell? ⟨b, 2, none⟩ = some (.pointer (some ⟨bt, 0, none⟩)) := cell_of_heap' HH6.out
  have g6_4 : w6.cell? ⟨b, 4, none⟩ = some (.pointer (some ⟨bq, 0, none⟩)) := cell_of_heap' HH6.out
  have g6_5 : w6.cell? ⟨b, 5, none⟩ = some (.pointer (some ⟨br, 0, none⟩)) := cell_of_heap' HH6.out
  have g6_6 : w6.cell? ⟨b, 6, none⟩ = some (.pointer none) := cell_of_heap' HH6.out
  have t6l := HE6.out.2.2.2.1
  have t6r := HE6.out.2.2.2.2
  go_wp2_with fail
  refine Calls.mono (env_string HE6.out _ [123, 123] rfl (by (try simp only [List.length_append, List.length_cons, List.length_nil, by'_len]); omega)) ?_
  rintro e w7 ⟨rfl, he, hb⟩
  have HE7 := Lib.hid he
  have HB7 := Lib.hid (HB6.out.trans hb)
  have HH7 := Lib.hid (node_later HH6.out LB.out hb)
  have HQq7 := Lib.hid (HQq6.out.low hb)
  have HQr7 := Lib.hid (HQr6.out.low hb)
  clear he hb g6_0 g6_2 g6_4 g6_5 g6_6 t6l t6r
  have g7_0 : w7.cell? ⟨b, 0, none⟩ = some (.int .i64 15) := cell_of_heap' HH7.out
  have g7_2 : w7.cell? ⟨b, 2, none⟩ = some (.pointer (some ⟨bt, 0, none⟩)) := cell_of_heap' HH7.out
  have g7_4 : w7.cell? ⟨b, 4, none⟩ = some (.pointer (some ⟨bq, 0, none⟩)) := cell_of_heap' HH7.out
  have g7_5 : w7.cell? ⟨b, 5, none⟩ = some (.pointer (some ⟨br, 0, none⟩)) := cell_of_heap' HH7.out
  have g7_6 : w7.cell? ⟨b, 6, none⟩ = some (.pointer none) := cell_of_heap' HH7.out
  have t7l := HE7.out.2.2.2.1
  have t7r := HE7.out.2.2.2.2
  go_wp2_with fail
  refine Calls.mono (env_string HE7.out _ [101, 110, 100] rfl (by (try simp only [List.length_append, List.length_cons, List.length_nil, by'_len]); omega)) ?_
  rintro e w8 ⟨rfl, he, hb⟩
  have HE8 := Lib.hid he
  have HB8 := Lib.hid (HB7.out.trans hb)
  have HH8 := Lib.hid (node_later HH7.out LB.out hb)
  have HQq8 := Lib.hid (HQq7.out.low hb)
  have HQr8 := Lib.hid (HQr7.out.low hb)
  clear he hb g7_0 g7_2 g7_4 g7_5 g7_6 t7l t7r
  have g8_0 : w8.cell? ⟨b, 0, none⟩ = some (.int .i64 15) := cell_of_heap' HH8.out
  have g8_2 : w8.cell? ⟨b, 2, none⟩ = some (.pointer (some ⟨bt, 0, none⟩)) := cell_of_heap' HH8.out
  have g8_4 : w8.cell? ⟨b, 4, none⟩ = some (.pointer (some ⟨bq, 0, none⟩)) := cell_of_heap' HH8.out
  have g8_5 : w8.cell? ⟨b, 5, none⟩ = some (.pointer (some ⟨br, 0, none⟩)) := cell_of_heap' HH8.out
  have g8_6 : w8.cell? ⟨b, 6, none⟩ = some (.pointer none) := cell_of_heap' HH8.out
  have t8l := HE8.out.2.2.2.1
  have t8r := HE8.out.2.2.2.2
  go_wp2_with fail
  refine Calls.mono (env_string HE8.out _ [125, 125] rfl (by (try simp only [List.length_append, List.length_cons, List.length_nil, by'_len]); omega)) ?_
  rintro e w9 ⟨rfl, he, hb⟩
  have HE9 := Lib.hid he
  have HB9 := Lib.hid (HB8.out.trans hb)
  have HH9 := Lib.hid (node_later HH8.out LB.out hb)
  have HQq9 := Lib.hid (HQq8.out.low hb)
  have HQr9 := Lib.hid (HQr8.out.low hb)
  clear he hb g8_0 g8_2 g8_4 g8_5 g8_6 t8l t8r
  have g9_0 : w9.cell? ⟨b, 0, none⟩ = some (.int .i64 15) := cell_of_heap' HH9.out
  have g9_2 : w9.cell? ⟨b, 2, none⟩ = some (.pointer (some ⟨bt, 0, none⟩)) := cell_of_heap' HH9.out
  have g9_4 : w9.cell? ⟨b, 4, none⟩ = some (.pointer (some ⟨bq, 0, none⟩)) := cell_of_heap' HH9.out
  have g9_5 : w9.cell? ⟨b, 5, none⟩ = some (.pointer (some ⟨br, 0, none⟩)) := cell_of_heap' HH9.out
  have g9_6 : w9.cell? ⟨b, 6, none⟩ = some (.pointer none) := cell_of_heap' HH9.out
  have t9l := HE9.out.2.2.2.1
  have t9r := HE9.out.2.2.2.2
  go_wp2
  all_goals (first | go_end0 | refine bodyPost_ret (results_none rfl _ _ _) rfl ?_)
  all_goals exact ⟨rfl, by have h := HE9.out; simpa [lbr, rbr, List.append_assoc] using h, HB9.out⟩

set_option maxHeartbeats 2000000 in
set_option maxRecDepth 100000 in
theorem wr_range1 {B bt sb b d bq br bz : Nat} {n q r z : Nd} {E : TypeId} {l : List UInt8} {w : World} (ih : WrAt B bt sb d) (h : n.kind = 14) (hk : n.kids = [q, r]) (hel : n.hasElse = true) (hels : n.els = [z]) (hqq : PN w 0 (· < B) (TrIs (some ⟨bt, 0, none⟩)) d bq q) (kq : q.kind = ((13 : Nat) : Int)) (nq : Nmd d q) (sq : Sm d q) (hqr : PN w 0 (· < B) (TrIs (some ⟨bt, 0, none⟩)) d br r) (kr : r.kind = ((10 : Nat) : Int)) (nr : Nmd d r) (sr : Sm d r) (hqz : PN w 0 (· < B) (TrIs (some ⟨bt, 0, none⟩)) d bz z) (kz : z.kind = ((10 : Nat) : Int)) (nz : Nmd d z) (sz : Sm d z) (hbB : b < B) (hh : w.heap[b]? = some (.cells #[.int .i64 15, .int .i64 0, .pointer (some ⟨bt, 0, none⟩), .int .i64 0, .pointer (some ⟨bq, 0, none⟩), .pointer (some ⟨br, 0, none⟩), .pointer (some ⟨bz, 0, none⟩)] E (0, 0))) (he : Env B bt sb l w) (hl : l.length + (pr (d + 1) n).length ≤ 140737488355328) :
    Calls Tryz.prog 146 #[.pointer (some ⟨b, 0, none⟩), .pointer (some ⟨sb, 0, none⟩)] w (WrPost B bt sb w (l ++ pr (d + 1) n)) := by
  have e0 : pr (d + 1) n = lbr ++ [114, 97, 110, 103, 101] ++ [32] ++ pr d q ++ rbr ++ pr d r ++ (lbr ++ [101, 108, 115, 101] ++ rbr ++ pr d z) ++ lbr ++ [101, 110, 100] ++ rbr := by simp [pr, h, hk, hel, hels, firstD, secondD, wordD]
  rw [e0] at hl ⊢
  simp only [List.length_append, List.length_cons, List.length_nil, by'_len, lbr, rbr] at hl
  clear e0 h hk hel hels
  have Kq := Lib.hid kq
  have Nq := Lib.hid nq
  have Sq := Lib.hid sq
  clear kq nq sq
  have Kr := Lib.hid kr
  have Nr := Lib.hid nr
  have Sr := Lib.hid sr
  clear kr nr sr
  have Kz := Lib.hid kz
  have Nz := Lib.hid nz
  have Sz := Lib.hid sz
  clear kz nz sz
  have IH := Lib.hid ih
  clear ih
  have HE0 := Lib.hid he
  have HB0 : Hid (Below B w w) := Lib.hid (Below.refl _ _)
  have HH0 := Lib.hid hh
  have LB := Lib.hid hbB
  have HQq0 := Lib.hid hqq
  have HQr0 := Lib.hid hqr
  have HQz0 := Lib.hid hqz
  clear he hh hbB hqq hqr hqz
  have g0_0 : w.cell? ⟨b, 0, none⟩ = some (.int .i64 15) := cell_of_heap' HH0.out
  have g0_2 : w.cell? ⟨b, 2, none⟩ = some (.pointer (some ⟨bt, 0, none⟩)) := cell_of_heap' HH0.out
  have g0_4 : w.cell? ⟨b, 4, none⟩ = some (.pointer (some ⟨bq, 0, none⟩)) := cell_of_heap' HH0.out
  have g0_5 : w.cell? ⟨b, 5, none⟩ = some (.pointer (some ⟨br, 0, none⟩)) := cell_of_heap' HH0.out
  have g0_6 : w.cell? ⟨b, 6, none⟩ = some (.pointer (some ⟨bz, 0, none⟩)) := cell_of_heap' HH0.out
  have t0l := HE0.out.2.2.2.1
  have t0r := HE0.out.2.2.2.2
  go_enter Tryz.func146, Tryz.ntmps146
  go_wp2_with fail
  refine Calls.mono (env_string HE0.out _ [123, 123] rfl (by (try simp only [List.length_append, List.length_cons, List.length_nil, by'_len]); omega)) ?_
  rintro e w1 ⟨rfl, he, hb⟩
  have HE1 := Lib.hid he
  have HB1 := Lib.hid (HB0.out.trans hb)
  have HH1 := Lib.hid (node_later HH0.out LB.out hb)
  have HQq1 := Lib.hid (HQq0.out.low hb)
  have HQr1 := Lib.hid (HQr0.out.low hb)
  have HQz1 := Lib.hid (HQz0.out.low hb)
  clear he hb g0_0 g0_2 g0_4 g0_5 g0_6 t0l t0r
  have g1_0 : w1.cell? ⟨b, 0, none⟩ = some (.int .i64 15) := cell_of_heap' HH1.out
  have g1_2 : w1.cell? ⟨b, 2, none⟩ = some (.pointer (some ⟨bt, 0, none⟩)) := cell_of_heap' HH1.out
  have g1_4 : w1.cell? ⟨b, 4, none⟩ = some (.pointer (some ⟨bq, 0, none⟩)) := cell_of_heap' HH1.out
  have g1_5 : w1.cell? ⟨b, 5, none⟩ = some (.pointer (some ⟨br, 0, none⟩)) := cell_of_heap' HH1.out
  have g1_6 : w1.cell? ⟨b, 6, none⟩ = some (.pointer (some ⟨bz, 0, none⟩)) := cell_of_heap' HH1.out
  have t1l := HE1.out.2.2.2.1
  have t1r := HE1.out.2.2.2.2
  go_wp2_with fail
  refine Calls.mono (env_string HE1.out _ [114, 97, 110, 103, 101] rfl (by (try simp only [List.length_append, List.length_cons, List.length_nil, by'_len]); omega)) ?_
  rintro e w2 ⟨rfl, he, hb⟩
  have HE2 := Lib.hid he
  have HB2 := Lib.hid (HB1.out.trans hb)
  have HH2 := Lib.hid (node_later HH1.out LB.out hb)
  have HQq2 := Lib.hid (HQq1.out.low hb)
  have HQr2 := Lib.hid (HQr1.out.low hb)
  have HQz2 := Lib.hid (HQz1.out.low hb)
  clear he hb g1_0 g1_2 g1_4 g1_5 g1_6 t1l t1r
  have g2_0 : w2.cell? ⟨b, 0, none⟩ = some (.int .i64 15) := cell_of_heap' HH2.out
  have g2_2 : w2.cell? ⟨b, 2, none⟩ = some (.pointer (some ⟨bt, 0, none⟩)) := cell_of_heap' HH2.out
  have g2_4 : w2.cell? ⟨b, 4, none⟩ = some (.pointer (some ⟨bq, 0, none⟩)) := cell_of_heap' HH2.out
  have g2_5 : w2.cell? ⟨b, 5, none⟩ = some (.pointer (some ⟨br, 0, none⟩)) := cell_of_heap' HH2.out
  have g2_6 : w2.cell? ⟨b, 6, none⟩ = some (.pointer (some ⟨bz, 0, none⟩)) := cell_of_heap' HH2.out
  have t2l := HE2.out.2.2.2.1
  have t2r := HE2.out.2.2.2.2
  go_wp2_with fail
  refine Calls.mono (env_byte HE2.out 32 32 rfl (by (try simp only [List.length_append, List.length_cons, List.length_nil, by'_len]); omega)) ?_
  rintro e w3 ⟨rfl, he, hb⟩
  have HE3 := Lib.hid he
  have HB3 := Lib.hid (HB2.out.trans hb)
  have HH3 := Lib.hid (node_later HH2.out LB.out hb)
  have HQq3 := Lib.hid (HQq2.out.low hb)
  have HQr3 := Lib.hid (HQr2.out.low hb)
  have HQz3 := Lib.hid (HQz2.out.low hb)
  clear he hb g2_0 g2_2 g2_4 g2_5 g2_6 t2l t2r
  have g3_0 : w3.cell? ⟨b, 0, none⟩ = some (.int .i64 15) := cell_of_heap' HH3.out
  have g3_2 : w3.cell? ⟨b, 2, none⟩ = some (.pointer (some ⟨bt, 0, none⟩)) := cell_of_heap' HH3.out
  have g3_4 : w3.cell? ⟨b, 4, none⟩ = some (.pointer (some ⟨bq, 0, none⟩)) := cell_of_heap' HH3.out
  have g3_5 : w3.cell? ⟨b, 5, none⟩ = some (.pointer (some ⟨br, 0, none⟩)) := cell_of_heap' HH3.out
  have g3_6 : w3.cell? ⟨b, 6, none⟩ = some (.pointer (some ⟨bz, 0, none⟩)) := cell_of_heap' HH3.out
  have t3l := HE3.out.2.2.2.1
  have t3r := HE3.out.2.2.2.2
  go_wp2_with fail
  refine Calls.mono (wr_at IH.out Kq.out HQq3.out Nq.out Sq.out HE3.out (by (try simp only [List.length_append, List.length_cons, List.length_nil, by'_len]); omega)) ?_
  rintro e w4 ⟨rfl, he, hb⟩
  have HE4 := Lib.hid he
  have HB4 := Lib.hid (HB3.out.trans hb)
  have HH4 := Lib.hid (node_later HH3.out LB.out hb)
  have HQq4 := Lib.hid (HQq3.out.low hb)
  have HQr4 := Lib.hid (HQr3.out.low hb)
  have HQz4 := Lib.hid (HQz3.out.low hb)
  clear he hb g3_0 g3_2 g3_4 g3_5 g3_6 t3l t3r
  have g4_0 : w4.cell? ⟨b, 0, none⟩ = some (.int .i64 15) := cell_of_heap' HH4.out
  have g4_2 : w4.cell? ⟨b, 2, none⟩ = some (.pointer (some ⟨bt, 0, none⟩)) := cell_of_heap' HH4.out
  have g4_4 : w4.cell? ⟨b, 4, none⟩ = some (.pointer (some ⟨bq, 0, none⟩)) := cell_of_heap' HH4.out
  have g4_5 : w4.cell? ⟨b, 5, none⟩ = some (.pointer (some ⟨br, 0, none⟩)) := cell_of_heap' HH4.out
  have g4_6 : w4.cell? ⟨b, 6, none⟩ = some (.pointer (some ⟨bz, 0, none⟩)) := cell_of_heap' HH4.out
  have t4l := HE4.out.2.2.2.1
  have t4r := HE4.out.2.2.2.2
  go_wp2_with fail
  refine Calls.mono (env_string HE4.out _ [125, 125] rfl (by (try simp only [List.length_append, List.length_cons, List.length_nil, by'_len]); omega)) ?_
  rintro e w5 ⟨rfl, he, hb⟩
  have HE5 := Lib.hid he
  have HB5 := Lib.hid (HB4.out.trans hb)
  have HH5 := Lib.hid (node_later HH4.out LB.out hb)
  have HQq5 := Lib.hid (HQq4.out.low hb)
  have HQr5 := Lib.hid (HQr4.out.low hb)
  have HQz5 := Lib.hid (HQz4.out.low hb)
  clear he hb g4_0 g4_2 g4_4 g4_5 g4_6 t4l t4r
  have g5_0 : w5.cell? ⟨b, 0, none⟩ = some (.int .i64 15) := cell_of_heap' HH5.out
  have g5_2 : w5.cell? ⟨b, 2, none⟩ = some (.pointer (some ⟨bt, 0, none⟩)) := cell_of_heap' HH5.out
  have g5_4 : w5.cell? ⟨b, 4, none⟩ = some (.pointer (some ⟨bq, 0, none⟩)) := cell_of_heap' HH5.out
  have g5_5 : w5.cell? ⟨b, 5, none⟩ = some (.pointer (some ⟨br, 0, none⟩)) := cell_of_heap' HH5.out
  have g5_6 : w5.cell? ⟨b, 6, none⟩ = some (.pointer (some ⟨bz, 0, none⟩)) := cell_of_heap' HH5.out
  have t5l := HE5.out.2.2.2.1
  have t5r := HE5.out.2.2.2.2
  go_wp2_with fail
  refine Calls.mono (wr_at IH.out Kr.out HQr5.out Nr.out Sr.out HE5.out (by (try simp only [List.length_append, List.length_cons, List.length_nil, by'_len]); omega)) ?_
  rintro e w6 ⟨rfl, he, hb⟩
  have HE6 := Lib.hid he
  have HB6 := Lib.hid (HB5.out.trans hb)
  have HH6 := Lib.hid (node_later HH5.out LB.out hb)
  have HQq6 := Lib.hid (HQq5.out.low hb)
  have HQr6 := Lib.hid (HQr5.out.low hb)
  have HQz6 := Lib.hid (HQz5.out.low hb)
  clear he hb g5_0 g5_2 g5_4 g5_5 g5_6 t5l t5r
  have g6_0 : w6.cell? ⟨b, 0, none⟩ = some (.int .i64 15) := cell_of_heap' HH6.out
  have g6_2 : w6.cell? ⟨b, 2, none⟩ = some (.pointer (some ⟨bt, 0, none⟩)) := cell_of_heap' HH6.out
  have g6_4 : w6.cell? ⟨b, 4, none⟩ = some (.pointer (some ⟨bq, 0, none⟩)) := cell_of_heap' HH6.out
  have g6_5 : w6.cell? ⟨b, 5, none⟩ = some (.pointer (some ⟨br, 0, none⟩)) := cell_of_heap' HH6.out
  have g6_6 : w6.cell? ⟨b, 6, none⟩ = some (.pointer (some ⟨bz, 0, none⟩)) := cell_of_heap' HH6.out
  have t6l := HE6.out.2.2.2.1
  have t6r := HE6.out.2.2.2.2
  go_wp2_with fail
  refine Calls.mono (env_string HE6.out _ [123, 123] rfl (by (try simp only [List.length_append, List.length_cons, List.length_nil, by'_len]); omega)) ?_
  rintro e w7 ⟨rfl, he, hb⟩
  have HE7 := Lib.hid he
  have HB7 := Lib.hid (HB6.out.trans hb)
  have HH7 := Lib.hid (node_later HH6.out LB.out hb)
  have HQq7 := Lib.hid (HQq6.out.low hb)
  have HQr7 := Lib.hid (HQr6.out.low hb)
  have HQz7 := Lib.hid (HQz6.out.low hb)
  clear he hb g6_0 g6_2 g6_4 g6_5 g6_6 t6l t6r
  have g7_0 : w7.cell? ⟨b, 0, none⟩ = some (.int .i64 15) := cell_of_heap' HH7.out
  have g7_2 : w7.cell? ⟨b, 2, none⟩ = some (.pointer (some ⟨bt, 0, none⟩)) := cell_of_heap' HH7.out
  have g7_4 : w7.cell? ⟨b, 4, none⟩ = some (.pointer (some ⟨bq, 0, none⟩)) := cell_of_heap' HH7.out
  have g7_5 : w7.cell? ⟨b, 5, none⟩ = some (.pointer (some ⟨br, 0, none⟩)) := cell_of_heap' HH7.out
  have g7_6 : w7.cell? ⟨b, 6, none⟩ = some (.pointer (some ⟨bz, 0, none⟩)) := cell_of_heap' HH7.out
  have t7l := HE7.out.2.2.2.1
  have t7r := HE7.out.2.2.2.2
  go_wp2_with fail
  refine Calls.mono (env_string HE7.out _ [101, 108, 115, 101] rfl (by (try simp only [List.length_append, List.length_cons, List.length_nil, by'_len]); omega)) ?_
  rintro e w8 ⟨rfl, he, hb⟩
  have HE8 := Lib.hid he
  have HB8 := Lib.hid (HB7.out.trans hb)
  have HH8 := Lib.hid (node_later HH7.out LB.out hb)
  have HQq8 := Lib.hid (HQq7.out.low hb)
  have HQr8 := Lib.hid (HQr7.out.low hb)
  have HQz8 := Lib.hid (HQz7.out.low hb)
  clear he hb g7_0 g7_2 g7_4 g7_5 g7_6 t7l t7r
  have g8_0 : w8.cell? ⟨b, 0, none⟩ = some (.int .i64 15) := cell_of_heap' HH8.out
  have g8_2 : w8.cell? ⟨b, 2, none⟩ = some (.pointer (some ⟨bt, 0, none⟩)) := cell_of_heap' HH8.out
  have g8_4 : w8.cell? ⟨b, 4, none⟩ = some (.pointer (some ⟨bq, 0, none⟩)) := cell_of_heap' HH8.out
  have g8_5 : w8.cell? ⟨b, 5, none⟩ = some (.pointer (some ⟨br, 0, none⟩)) := cell_of_heap' HH8.out
  have g8_6 : w8.cell? ⟨b, 6, none⟩ = some (.pointer (some ⟨bz, 0, none⟩)) := cell_of_heap' HH8.out
  have t8l := HE8.out.2.2.2.1
  have t8r := HE8.out.2.2.2.2
  go_wp2_with fail
  refine Calls.mono (env_string HE8.out _ [125, 125] rfl (by (try simp only [List.length_append, List.length_cons, List.length_nil, by'_len]); omega)) ?_
  rintro e w9 ⟨rfl, he, hb⟩
  have HE9 := Lib.hid he
  have HB9 := Lib.hid (HB8.out.trans hb)
  have HH9 := Lib.hid (node_later HH8.out LB.out hb)
  have HQq9 := Lib.hid (HQq8.out.low hb)
  have HQr9 := Lib.hid (HQr8.out.low hb)
  have HQz9 := Lib.hid (HQz8.out.low hb)
  clear he hb g8_0 g8_2 g8_4 g8_5 g8_6 t8l t8r
  have g9_0 : w9.cell? ⟨b, 0, none⟩ = some (.int .i64 15) := cell_of_heap' HH9.out
  have g9_2 : w9.cell? ⟨b, 2, none⟩ = some (.pointer (some ⟨bt, 0, none⟩)) := cell_of_heap' HH9.out
  have g9_4 : w9.cell? ⟨b, 4, none⟩ = some (.pointer (some ⟨bq, 0, none⟩)) := cell_of_heap' HH9.out
  have g9_5 : w9.cell? ⟨b, 5, none⟩ = some (.pointer (some ⟨br, 0, none⟩)) := cell_of_heap' HH9.out
  have g9_6 : w9.cell? ⟨b, 6, none⟩ = some (.pointer (some ⟨bz, 0, none⟩)) := cell_of_heap' HH9.out
  have t9l := HE9.out.2.2.2.1
  have t9r := HE9.out.2.2.2.2
  go_wp2_with fail
  refine Calls.mono (wr_at IH.out Kz.out HQz9.out Nz.out Sz.out HE9.out (by (try simp only [List.length_append, List.length_cons, List.length_nil, by'_len]); omega)) ?_
  rintro e w10 ⟨rfl, he, hb⟩
  have HE10 := Lib.hid he
  have HB10 := Lib.hid (HB9.out.trans hb)
  have HH10 := Lib.hid (node_later HH9.out LB.out hb)
  have HQq10 := Lib.hid (HQq9.out.low hb)
  have HQr10 := Lib.hid (HQr9.out.low hb)
  have HQz10 := Lib.hid (HQz9.out.low hb)
  clear he hb g9_0 g9_2 g9_4 g9_5 g9_6 t9l t9r
  have g10_0 : w10.cell? ⟨b, 0, none⟩ = some (.int .i64 15) := cell_of_heap' HH10.out
  have g10_2 : w10.cell? ⟨b, 2, none⟩ = some (.pointer (some ⟨bt, 0, none⟩)) := cell_of_heap' HH10.out
  have g10_4 : w10.cell? ⟨b, 4, none⟩ = some (.pointer (some ⟨bq, 0, none⟩)) := cell_of_heap' HH10.out
  have g10_5 : w10.cell? ⟨b, 5, none⟩ = some (.pointer (some ⟨br, 0, none⟩)) := cell_of_heap' HH10.out
  have g10_6 : w10.cell? ⟨b, 6, none⟩ = some (.pointer (some ⟨bz, 0, none⟩)) := cell_of_heap' HH10.out
  have t10l := HE10.out.2.2.2.1
  have t10r := HE10.out.2.2.2.2
  go_wp2_with fail
  refine Calls.mono (env_string HE10.out _ [123, 123] rfl (by (try simp only [List.length_append, List.length_cons, List.length_nil, by'_len]); omega)) ?_
  rintro e w11 ⟨rfl, he, hb⟩
  have HE11 := Lib.hid he
  have HB11 := Lib.hid (HB10.out.trans hb)
  have HH11 := Lib.hid (node_later HH10.out LB.out hb)
  have HQq11 := Lib.hid (HQq10.out.low hb)
  have HQr11 := Lib.hid (HQr10.out.low hb)
  have HQz11 := Lib.hid (HQz10.out.low hb)
  clear he hb g10_0 g10_2 g10_4 g10_5 g10_6 t10l t10r
  have g11_0 : w11.cell? ⟨b, 0, none⟩ = some (.int .i64 15) := cell_of_heap' HH11.out
  have g11_2 : w11.cell? ⟨b, 2, none⟩ = some (.pointer (some ⟨bt, 0, none⟩)) := cell_of_heap' HH11.out
  have g11_4 : w11.cell? ⟨b, 4, none⟩ = some (.pointer (some ⟨bq, 0, none⟩)) := cell_of_heap' HH11.out
  have g11_5 : w11.cell? ⟨b, 5, none⟩ = some (.pointer (some ⟨br, 0, none⟩)) := cell_of_heap' HH11.out
  have g11_6 : w11.cell? ⟨b, 6, none⟩ = some (.pointer (some ⟨bz, 0, none⟩)) := cell_of_heap' HH11.out
  have t11l := HE11.out.2.2.2.1
  have t11r := HE11.out.2.2.2.2
  go_wp2_with fail
  refine Calls.mono (env_string HE11.out _ [101, 110, 100] rfl (by (try simp only [List.length_append, List.length_cons, List.length_nil, by'_len]); omega)) ?_
  rintro e w12 ⟨rfl, he, hb⟩
  have HE12 := Lib.hid he
  have HB12 := Lib.hid (HB11.out.trans hb)
  have HH12 := Lib.hid (node_later HH11.out LB.out hb)
  have HQq12 := Lib.hid (HQq11.out.low hb)
  have HQr12 := Lib.hid (HQr11.out.low hb)
  have HQz12 := Lib.hid (HQz11.out.low hb)
  clear he hb g11_0 g11_2 g11_4 g11_5 g11_6 t11l t11r
  have g12_0 : w12.cell? ⟨b, 0, none⟩ = some (.int .i64 15) := cell_of_heap' HH12.out
  have g12_2 : w12.cell? ⟨b, 2, none⟩ = some (.pointer (some ⟨bt, 0, none⟩)) := cell_of_heap' HH12.out
  have g12_4 : w12.cell? ⟨b, 4, none⟩ = some (.pointer (some ⟨bq, 0, none⟩)) := cell_of_heap' HH12.out
  have g12_5 : w12.cell? ⟨b, 5, none⟩ = some (.pointer (some ⟨br, 0, none⟩)) := cell_of_heap' HH12.out
  have g12_6 : w12.cell? ⟨b, 6, none⟩ = some (.pointer (some ⟨bz, 0, none⟩)) := cell_of_heap' HH12.out
  have t12l := HE12.out.2.2.2.1
  have t12r := HE12.out.2.2.2.2
  go_wp2_with fail
  refine Calls.mono (env_string HE12.out _ [125, 125] rfl (by (try simp only [List.length_append, List.length_cons, List.length_nil, by'_len]); omega)) ?_
  rintro e w13 ⟨rfl, he, hb⟩
  have HE13 := Lib.hid he
  have HB13 := Lib.hid (HB12.out.trans hb)
  have HH13 := Lib.hid (node_later HH12.out LB.out hb)
  have HQq13 := Lib.hid (HQq12.out.low hb)
  have HQr13 := Lib.hid (HQr12.out.low hb)
  have HQz13 := Lib.hid (HQz12.out.low hb)
  clear he hb g12_0 g12_2 g12_4 g12_5 g12_6 t12l t12r
  have g13_0 : w13.cell? ⟨b, 0, none⟩ = some (.int .i64 15) := cell_of_heap' HH13.out
  have g13_2 : w13.cell? ⟨b, 2, none⟩ = some (.pointer (some ⟨bt, 0, none⟩)) := cell_of_heap' HH13.out
  have g13_4 : w13.cell? ⟨b, 4, none⟩ = some (.pointer (some ⟨bq, 0, none⟩)) := cell_of_heap' HH13.out
  have g13_5 : w13.cell? ⟨b, 5, none⟩ = some (.pointer (some ⟨br, 0, none⟩)) := cell_of_heap' HH13.out
  have g13_6 : w13.cell? ⟨b, 6, none⟩ = some (.pointer (some ⟨bz, 0, none⟩)) := cell_of_heap' HH13.out
  have t13l := HE13.out.2.2.2.1
  have t13r := HE13.out.2.2.2.2
  go_wp2
  all_goals (first | go_end0 | refine bodyPost_ret (results_none rfl _ _ _) rfl ?_)
  all_goals exact ⟨rfl, by have h := HE13.out; simpa [lbr, rbr, List.append_assoc] using h, HB13.out⟩

set_option maxHeartbeats 2000000 in
set_option maxRecDepth 100000 in
theorem wr_with0 {B bt sb b d bq br : Nat} {n q r : Nd} {E : TypeId} {l : List UInt8} {w : World} (ih : WrAt B bt sb d) (h : n.kind = 18) (hk : n.kids = [q, r]) (hel : n.hasElse = false) (hqq : PN w 0 (· < B) (TrIs (some ⟨bt, 0, none⟩)) d bq q) (kq : q.kind = ((13 : Nat) : Int)) (nq : Nmd d q) (sq : Sm d q) (hqr : PN w 0 (· < B) (TrIs (some ⟨bt, 0, none⟩)) d br r) (kr : r.kind = ((10 : Nat) : Int)) (nr : Nmd d r) (sr : Sm d r) (hbB : b < B) (hh : w.heap[b]? = some (.cells #[.int .i64 19, .int .i64 0, .pointer (some ⟨bt, 0, none⟩), .int .i64 0, .pointer (some ⟨bq, 0, none⟩), .pointer (some ⟨br, 0, none⟩), .pointer none] E (0, 0))) (he : Env B bt sb l w) (hl : l.length + (pr (d + 1) n).length ≤ 140737488355328) :
    Calls Tryz.prog 146 #[.pointer (some ⟨b, 0, none⟩), .pointer (some ⟨sb, 0, none⟩)] w (WrPost B bt sb w (l ++ pr (d + 1) n)) := by
  have e0 : pr (d + 1) n = lbr ++ [119, 105, 116, 104] ++ [32] ++ pr d q ++ rbr ++ pr d r ++ lbr ++ [101, 110, 100] ++ rbr := by simp [pr, h, hk, hel, firstD, secondD, wordD]
  rw [e0] at hl ⊢
  simp only [List.length_append, List.length_cons, List.length_nil, by'_len, lbr, rbr] at hl
  clear e0 h hk hel
  have Kq := Lib.hid kq
  have Nq := Lib.hid nq
  have Sq := Lib.hid sq
  clear kq nq sq
  have Kr := Lib.hid kr
  have Nr := Lib.hid nr
  have Sr := Lib.hid sr
  clear kr nr sr
  have IH := Lib.hid ih
  clear ih
  have HE0 := Lib.hid he
  have HB0 : Hid (Below B w w) := Lib.hid (Below.refl _ _)
  have HH0 := Lib.hid hh
  have LB := Lib.hid hbB
  have HQq0 := Lib.hid hqq
  have HQr0 := Lib.hid hqr
  clear he hh hbB hqq hqr
  have g0_0 : w.cell? ⟨b, 0, none⟩ = some (.int .i64 19) := cell_of_heap' HH0.out
  have g0_2 : w.cell? ⟨b, 2, none⟩ = some (.pointer (some ⟨bt, 0, none⟩)) := cell_of_heap' HH0.out
  have g0_4 : w.cell? ⟨b, 4, none⟩ = some (.pointer (some ⟨bq, 0, none⟩)) := cell_of_heap' HH0.out
  have g0_5 : w.cell? ⟨b, 5, none⟩ = some (.pointer (some ⟨br, 0, none⟩)) := cell_of_heap' HH0.out
  have g0_6 : w.cell? ⟨b, 6, none⟩ = some (.pointer none) := cell_of_heap' HH0.out
  have t0l := HE0.out.2.2.2.1
  have t0r := HE0.out.2.2.2.2
  go_enter Tryz.func146, Tryz.ntmps146
  go_wp2_with fail
  refine Calls.mono (env_string HE0.out _ [123, 123] rfl (by (try simp only [List.length_append, List.length_cons, List.length_nil, by'_len]); omega)) ?_
  rintro e w1 ⟨rfl, he, hb⟩
  have HE1 := Lib.hid he
  have HB1 := Lib.hid (HB0.out.trans hb)
  have HH1 := Lib.hid (node_later HH0.out LB.out hb)
  have HQq1 := Lib.hid (HQq0.out.low hb)
  have HQr1 := Lib.hid (HQr0.out.low hb)
  clear he hb g0_0 g0_2 g0_4 g0_5 g0_6 t0l t0r
  have g1_0 : w1.cell? ⟨b, 0, none⟩ = some (.int .i64 19) := cell_of_heap' HH1.out
  have g1_2 : w1.cell? ⟨b, 2, none⟩ = some (.pointer (some ⟨bt, 0, none⟩)) := cell_of_heap' HH1.out
  have g1_4 : w1.cell? ⟨b, 4, none⟩ = some (.pointer (some ⟨bq, 0, none⟩)) := cell_of_heap' HH1.out
  have g1_5 : w1.cell? ⟨b, 5, none⟩ = some (.pointer (some ⟨br, 0, none⟩)) := cell_of_heap' HH1.out
  have g1_6 : w1.cell? ⟨b, 6, none⟩ = some (.pointer none) := cell_of_heap' HH1.out
  have t1l := HE1.out.2.2.2.1
  have t1r := HE1.out.2.2.2.2
  go_wp2_with fail
  refine Calls.mono (env_string HE1.out _ [119, 105, 116, 104] rfl (by (try simp only [List.length_append, List.length_cons, List.length_nil, by'_len]); omega)) ?_
  rintro e w2 ⟨rfl, he, hb⟩
  have HE2 := Lib.hid he
  have HB2 := Lib.hid (HB1.out.trans hb)
  have HH2 := Lib.hid (node_later HH1.out LB.out hb)
  have HQq2 := Lib.hid (HQq1.out.low hb)
  have HQr2 := Lib.hid (HQr1.out.low hb)
  clear he hb g1_0 g1_2 g1_4 g1_5 g1_6 t1l t1r
  have g2_0 : w2.cell? ⟨b, 0, none⟩ = some (.int .i64 19) := cell_of_heap' HH2.out
  have g2_2 : w2.cell? ⟨b, 2, none⟩ = some (.pointer (some ⟨bt, 0, none⟩)) := cell_of_heap' HH2.out
  have g2_4 : w2.cell? ⟨b, 4, none⟩ = some (.pointer (some ⟨bq, 0, none⟩)) := cell_of_heap' HH2.out
  have g2_5 : w2.cell? ⟨b, 5, none⟩ = some (.pointer (some ⟨br, 0, none⟩)) := cell_of_heap' HH2.out
  have g2_6 : w2.cell? ⟨b, 6, none⟩ = some (.pointer none) := cell_of_heap' HH2.out
  have t2l := HE2.out.2.2.2.1
  have t2r := HE2.out.2.2.2.2
  go_wp2_with fail
  refine Calls.mono (env_byte HE2.out 32 32 rfl (by (try simp only [List.length_append, List.length_cons, List.length_nil, by'_len]); omega)) ?_
  rintro e w3 ⟨rfl, he, hb⟩
  have HE3 := Lib.hid he
  have HB3 := Lib.hid (HB2.out.trans hb)
  have HH3 := Lib.hid (node_later HH2.out LB.out hb)
  have HQq3 := Lib.hid (HQq2.out.low hb)
  have HQr3 := Lib.hid (HQr2.out.low hb)
  clear he hb g2_0 g2_2 g2_4 g2_5 g2_6 t2l t2r
  have g3_0 : w3.cell? ⟨b, 0, none⟩ = some (.int .i64 19) := cell_of_heap' HH3.out
  have g3_2 : w3.cell? ⟨b, 2, none⟩ = some (.pointer (some ⟨bt, 0, none⟩)) := cell_of_heap' HH3.out
  have g3_4 : w3.cell? ⟨b, 4, none⟩ = some (.pointer (some ⟨bq, 0, none⟩)) := cell_of_heap' HH3.out
  have g3_5 : w3.cell? ⟨b, 5, none⟩ = some (.pointer (some ⟨br, 0, none⟩)) := cell_of_heap' HH3.out
  have g3_6 : w3.cell? ⟨b, 6, none⟩ = some (.pointer none) := cell_of_heap' HH3.out
  have t3l := HE3.out.2.2.2.1
  have t3r := HE3.out.2.2.2.2
  go_wp2_with fail
  refine Calls.mono (wr_at IH.out Kq.out HQq3.out Nq.out Sq.out HE3.out (by (try simp only [List.length_append, List.length_cons, List.length_nil, by'_len]); omega)) ?_
  rintro e w4 ⟨rfl, he, hb⟩
  have HE4 := Lib.hid he
  have HB4 := Lib.hid (HB3.out.trans hb)
  have HH4 := Lib.hid (node_later HH3.out LB.out hb)
  have HQq4 := Lib.hid (HQq3.out.low hb)
  have HQr4 := Lib.hid (HQr3.out.low hb)
  clear he hb g3_0 g3_2 g3_4 g3_5 g3_6 t3l t3r
  have g4_0 : w4.cell? ⟨b, 0, none⟩ = some (.int .i64 19) := cell_of_heap' HH4.out
  have g4_2 : w4.cell? ⟨b, 2, none⟩ = some (.pointer (some ⟨bt, 0, none⟩)) := cell_of_heap' HH4.out
  have g4_4 : w4.cell? ⟨b, 4, none⟩ = some (.pointer (some ⟨bq, 0, none⟩)) := cell_of_heap' HH4.out
  have g4_5 : w4.cell? ⟨b, 5, none⟩ = some (.pointer (some ⟨br, 0, none⟩)) := cell_of_heap' HH4.out
  have g4_6 : w4.cell? ⟨b, 6, none⟩ = some (.pointer none) := cell_of_heap' HH4.out
  have t4l := HE4.out.2.2.2.1
  have t4r := HE4.out.2.2.2.2
  go_wp2_with fail
  refine Calls.mono (env_string HE4.out _ [125, 125] rfl (by (try simp only [List.length_append, List.length_cons, List.length_nil, by'_len]); omega)) ?_
  rintro e w5 ⟨rfl, he, hb⟩
  have HE5 := Lib.hid he
  have HB5 := Lib.hid (HB4.out.trans hb)
  have HH5 := Lib.hid (node_later HH4.out LB.out hb)
  have HQq5 := Lib.hid (HQq4.out.low hb)
  have HQr5 := Lib.hid (HQr4.out.low hb)
  clear he hb g4_0 g4_2 g4_4 g4_5 g4_6 t4l t4r
  have g5_0 : w5.cell? ⟨b, 0, none⟩ = some (.int .i64 19) := cell_of_heap' HH5.out
  have g5_2 : w5.cell? ⟨b, 2, none⟩ = some (.pointer (some ⟨bt, 0, none⟩)) := cell_of_heap' HH5.out
  have g5_4 : w5.cell? ⟨b, 4, none⟩ = some (.pointer (some ⟨bq, 0, none⟩)) := cell_of_heap' HH5.out
  have g5_5 : w5.cell? ⟨b, 5, none⟩ = some (.pointer (some ⟨br, 0, none⟩)) := cell_of_heap' HH5.out
  have g5_6 : w5.cell? ⟨b, 6, none⟩ = some (.pointer none) := cell_of_heap' HH5.out
  have t5l := HE5.out.2.2.2.1
  have t5r := HE5.out.2.2.2.2
  go_wp2_with fail
  refine Calls.mono (wr_at IH.out Kr.out HQr5.out Nr.out Sr.out HE5.out (by (try simp only [List.length_append, List.length_cons, List.length_nil, by'_len]); omega)) ?_
  rintro e w6 ⟨rfl, he, hb⟩
  have HE6 := Lib.hid he
  have HB6 := Lib.hid (HB5.out.trans hb)
  have HH6 := Lib.hid (node_later HH5.out LB.out hb)
  have HQq6 := Lib.hid (HQq5.out.low hb)
  have HQr6 := Lib.hid (HQr5.out.low hb)
  clear he hb g5_0 g5_2 g5_4 g5_5 g5_6 t5l t5r
  have g6_0 : w6.cell? ⟨b, 0, none⟩ = some (.int .i64 19) := cell_of_heap' HH6.out
  have g6_2 : w6.cell? ⟨b, 2, none⟩ = some (.pointer (some ⟨bt, 0, none⟩)) := cell_of_heap' HH6.out
  have g6_4 : w6.cell? ⟨b, 4, none⟩ = some (.pointer (some ⟨bq, 0, none⟩)) := cell_of_heap' HH6.out
  have g6_5 : w6.cell? ⟨b, 5, none⟩ = some (.pointer (some ⟨br, 0, none⟩)) := cell_of_heap' HH6.out
  have g6_6 : w6.cell? ⟨b, 6, none⟩ = some (.pointer none) := cell_of_heap' HH6.out
  have t6l := HE6.out.2.2.2.1
  have t6r := HE6.out.2.2.2.2
  go_wp2_with fail
  refine Calls.mono (env_string HE6.out _ [123, 123] rfl (by (try simp only [List.length_append, List.length_cons, List.length_nil, by'_len]); omega)) ?_
  rintro e w7 ⟨rfl, he, hb⟩
  have HE7 := Lib.hid he
  have HB7 := Lib.hid (HB6.out.trans hb)
  have HH7 := Lib.hid (node_later HH6.out LB.out hb)
  have HQq7 := Lib.hid (HQq6.out.low hb)
  have HQr7 := Lib.hid (HQr6.out.low hb)
  clear he hb g6_0 g6_2 g6_4 g6_5 g6_6 t6l t6r
  have g7_0 : w7.cell? ⟨b, 0, none⟩ = some (.int .i64 19) := cell_of_heap' HH7.out
  have g7_2 : w7.cell? ⟨b, 2, none⟩ = some (.pointer (some ⟨bt, 0, none⟩)) := cell_of_heap' HH7.out
  have g7_4 : w7.cell? ⟨b, 4, none⟩ = some (.pointer (some ⟨bq, 0, none⟩)) := cell_of_heap' HH7.out
  have g7_5 : w7.cell? ⟨b, 5, none⟩ = some (.pointer (some ⟨br, 0, none⟩)) := cell_of_heap' HH7.out
  have g7_6 : w7.cell? ⟨b, 6, none⟩ = some (.pointer none) := cell_of_heap' HH7.out
  have t7l := HE7.out.2.2.2.1
  have t7r := HE7.out.2.2.2.2
  go_wp2_with fail
  refine Calls.mono (env_string HE7.out _ [101, 110, 100] rfl (by (try simp only [List.length_append, List.length_cons, List.length_nil, by'_len]); omega)) ?_
  rintro e w8 ⟨rfl, he, hb⟩
  have HE8 := Lib.hid he
  have HB8 := Lib.hid (HB7.out.trans hb)
  have HH8 := Lib.hid (node_later HH7.out LB.out hb)
  have HQq8 := Lib.hid (HQq7.out.low hb)
  have HQr8 := Lib.hid (HQr7.out.low hb)
  clear he hb g7_0 g7_2 g7_4 g7_5 g7_6 t7l t7r
  have g8_0 : w8.cell? ⟨b, 0, none⟩ = some (.int .i64 19) := cell_of_heap' HH8.out
  have g8_2 : w8.cell? ⟨b, 2, none⟩ = some (.pointer (some ⟨bt, 0, none⟩)) := cell_of_heap' HH8.out
  have g8_4 : w8.cell? ⟨b, 4, none⟩ = some (.pointer (some ⟨bq, 0, none⟩)) := cell_of_heap' HH8.out
  have g8_5 : w8.cell? ⟨b, 5, none⟩ = some (.pointer (some ⟨br, 0, none⟩)) := cell_of_heap' HH8.out
  have g8_6 : w8.cell? ⟨b, 6, none⟩ = some (.pointer none) := cell_of_heap' HH8.out
  have t8l := HE8.out.2.2.2.1
  have t8r := HE8.out.2.2.2.2
  go_wp2_with fail
  refine Calls.mono (env_string HE8.out _ [125, 125] rfl (by (try simp only [List.length_append, List.length_cons, List.length_nil, by'_len]); omega)) ?_
  rintro e w9 ⟨rfl, he, hb⟩
  have HE9 := Lib.hid he
  have HB9 := Lib.hid (HB8.out.trans hb)
  have HH9 := Lib.hid (node_later HH8.out LB.out hb)
  have HQq9 := Lib.hid (HQq8.out.low hb)
  have HQr9 := Lib.hid (HQr8.out.low hb)
  clear he hb g8_0 g8_2 g8_4 g8_5 g8_6 t8l t8r
  have g9_0 : w9.cell? ⟨b, 0, none⟩ = some (.int .i64 19) := cell_of_heap' HH9.out
  have g9_2 : w9.cell? ⟨b, 2, none⟩ = some (.pointer (some ⟨bt, 0, none⟩)) := cell_of_heap' HH9.out
  have g9_4 : w9.cell? ⟨b, 4, none⟩ = some (.pointer (some ⟨bq, 0, none⟩)) := cell_of_heap' HH9.out
  have g9_5 : w9.cell? ⟨b, 5, none⟩ = some (.pointer (some ⟨br, 0, none⟩)) := cell_of_heap' HH9.out
  have g9_6 : w9.cell? ⟨b, 6, none⟩ = some (.pointer none) := cell_of_heap' HH9.out
  have t9l := HE9.out.2.2.2.1
  have t9r := HE9.out.2.2.2.2
  go_wp2
  all_goals (first | go_end0 | refine bodyPost_ret (results_none rfl _ _ _) rfl ?_)
  all_goals exact ⟨rfl, by have h := HE9.out; simpa [lbr, rbr, List.append_assoc] using h, HB9.out⟩

set_option maxHeartbeats 2000000 in
set_option maxRecDepth 100000 in
theorem wr_with1 {B bt sb b d bq br bz : Nat} {n q r z : Nd} {E : TypeId} {l : List UInt8} {w : World} (ih : WrAt B bt sb d) (h : n.kind = 18) (hk : n.kids = [q, r]) (hel : n.hasElse = true) (hels : n.els = [z]) (hqq : PN w 0 (· < B) (TrIs (some ⟨bt, 0, none⟩)) d bq q) (kq : q.kind = ((13 : Nat) : Int)) (nq : Nmd d q) (sq : Sm d q) (hqr : PN w 0 (· < B) (TrIs (some ⟨bt, 0, none⟩)) d br r) (kr : r.kind = ((10 : Nat) : Int)) (nr : Nmd d r) (sr : Sm d r) (hqz : PN w 0 (· < B) (TrIs (some ⟨bt, 0, none⟩)) d bz z) (kz : z.kind = ((10 : Nat) : Int)) (nz : Nmd d z) (sz : Sm d z) (hbB : b < B) (hh : w.heap[b]? = some (.cells #[.int .i64 19, .int .i64 0, .pointer (some ⟨bt, 0, none⟩), .int .i64 0, .pointer (some ⟨bq, 0, none⟩), .pointer (some ⟨br, 0, none⟩), .pointer (some ⟨bz, 0, none⟩)] E (0, 0))) (he : Env B bt sb l w) (hl : l.length + (pr (d + 1) n).length ≤ 140737488355328) :
    Calls Tryz.prog 146 #[.pointer (some ⟨b, 0, none⟩), .pointer (some ⟨sb, 0, none⟩)] w (WrPost B bt sb w (l ++ pr (d + 1) n)) := by
  have e0 : pr (d + 1) n = lbr ++ [119, 105, 116, 104] ++ [32] ++ pr d q ++ rbr ++ pr d r ++ (lbr ++ [101, 108, 115, 101] ++ rbr ++ pr d z) ++ lbr ++ [101, 110, 100] ++ rbr := by simp [pr, h, hk, hel, hels, firstD, secondD, wordD]
  rw [e0] at hl ⊢
  simp only [List.length_append, List.length_cons, List.length_nil, by'_len, lbr, rbr] at hl
  clear e0 h hk hel hels
  have Kq := Lib.hid kq
  have Nq := Lib.hid nq
  have Sq := Lib.hid sq
  clear kq nq sq
  have Kr := Lib.hid kr
  have Nr := Lib.hid nr
  have Sr := Lib.hid sr
  clear kr nr sr
  have Kz := Lib.hid kz
  have Nz := Lib.hid nz
  have Sz := Lib.hid sz
  clear kz nz sz
  have IH := Lib.hid ih
  clear ih
  have HE0 := Lib.hid he
  have HB0 : Hid (Below B w w) := Lib.hid (Below.refl _ _)
  have HH0 := Lib.hid hh
  have LB := Lib.hid hbB
  have HQq0 := Lib.hid hqq
  have HQr0 := Lib.hid hqr
  have HQz0 := Lib.hid hqz
  clear he hh hbB hqq hqr hqz
  have g0_0 : w.cell? ⟨b, 0, none⟩ = some (.int .i64 19) := cell_of_heap' HH0.out
  have g0_2 : w.cell? ⟨b, 2, none⟩ = some (.pointer (some ⟨bt, 0, none⟩)) := cell_of_heap' HH0.out
  have g0_4 : w.cell? ⟨b, 4, none⟩ = some (.pointer (some ⟨bq, 0, none⟩)) := cell_of_heap' HH0.out
  have g0_5 : w.cell? ⟨b, 5, none⟩ = some (.pointer (some ⟨br, 0, none⟩)) := cell_of_heap' HH0.out
  have g0_6 : w.cell? ⟨b, 6, none⟩ = some (.pointer (some ⟨bz, 0, none⟩)) := cell_of_heap' HH0.out
  have t0l := HE0.out.2.2.2.1
  have t0r := HE0.out.2.2.2.2
  go_enter Tryz.func146, Tryz.ntmps146
  go_wp2_with fail
  refine Calls.mono (env_string HE0.out _ [123, 123] rfl (by (try simp only [List.length_append, List.length_cons, List.length_nil, by'_len]); omega)) ?_
  rintro e w1 ⟨rfl, he, hb⟩
  have HE1 := Lib.hid he
  have HB1 := Lib.hid (HB0.out.trans hb)
  have HH1 := Lib.hid (node_later HH0.out LB.out hb)
  have HQq1 := Lib.hid (HQq0.out.low hb)
  have HQr1 := Lib.hid (HQr0.out.low hb)
  have HQz1 := Lib.hid (HQz0.out.low hb)
  clear he hb g0_0 g0_2 g0_4 g0_5 g0_6 t0l t0r
  have g1_0 : w1.cell? ⟨b, 0, none⟩ = some (.int .i64 19) := cell_of_heap' HH1.out
  have g1_2 : w1.cell? ⟨b, 2, none⟩ = some (.pointer (some ⟨bt, 0, none⟩)) := cell_of_heap' HH1.out
  have g1_4 : w1.cell? ⟨b, 4, none⟩ = some (.pointer (some ⟨bq, 0, none⟩)) := cell_of_heap' HH1.out
  have g1_5 : w1.cell? ⟨b, 5, none⟩ = some (.pointer (some ⟨br, 0, none⟩)) := cell_of_heap' HH1.out
  have g1_6 : w1.cell? ⟨b, 6, none⟩ = some (.pointer (some ⟨bz, 0, none⟩)) := cell_of_heap' HH1.out
  have t1l := HE1.out.2.2.2.1
  have t1r := HE1.out.2.2.2.2
  go_wp2_with fail
  refine Calls.mono (env_string HE1.out _ [119, 105, 116, 104] rfl (by (try simp only [List.length_append, List.length_cons, List.length_nil, by'_len]); omega)) ?_
  rintro e w2 ⟨rfl, he, hb⟩
  have HE2 := Lib.hid he
  have HB2 := Lib.hid (HB1.out.trans hb)
  have HH2 := Lib.hid (node_later HH1.out LB.out hb)
  have HQq2 := Lib.hid (HQq1.out.low hb)
  have HQr2 := Lib.hid (HQr1.out.low hb)
  have HQz2 := Lib.hid (HQz1.out.low hb)
  clear he hb g1_0 g1_2 g1_4 g1_5 g1_6 t1l t1r
  have g2_0 : w2.cell? ⟨b, 0, none⟩ = some (.int .i64 19) := cell_of_heap' HH2.out
  have g2_2 : w2.cell? ⟨b, 2, none⟩ = some (.pointer (some ⟨bt, 0, none⟩)) := cell_of_heap' HH2.out
  have g2_4 : w2.cell? ⟨b, 4, none⟩ = some (.pointer (some ⟨bq, 0, none⟩)) := cell_of_heap' HH2.out
  have g2_5 : w2.cell? ⟨b, 5, none⟩ = some (.pointer (some ⟨br, 0, none⟩)) := cell_of_heap' HH2.out
  have g2_6 : w2.cell? ⟨b, 6, none⟩ = some (.pointer (some ⟨bz, 0, none⟩)) := cell_of_heap' HH2.out
  have t2l := HE2.out.2.2.2.1
  have t2r := HE2.out.2.2.2.2
  go_wp2_with fail
  refine Calls.mono (env_byte HE2.out 32 32 rfl (by (try simp only [List.length_append, List.length_cons, List.length_nil, by'_len]); omega)) ?_
  rintro e w3 ⟨rfl, he, hb⟩
  have HE3 := Lib.hid he
  have HB3 := Lib.hid (HB2.out.trans hb)
  have HH3 := Lib.hid (node_later HH2.out LB.out hb)
  have HQq3 := Lib.hid (HQq2.out.low hb)
  have HQr3 := Lib.hid (HQr2.out.low hb)
  have HQz3 := Lib.hid (HQz2.out.low hb)
  clear he hb g2_0 g2_2 g2_4 g2_5 g2_6 t2l t2r
  have g3_0 : w3.cell? ⟨b, 0, none⟩ = some (.int .i64 19) := cell_of_heap' HH3.out
  have g3_2 : w3.cell? ⟨b, 2, none⟩ = some (.pointer (some ⟨bt, 0, none⟩)) := cell_of_heap' HH3.out
  have g3_4 : w3.cell? ⟨b, 4, none⟩ = some (.pointer (some ⟨bq, 0, none⟩)) := cell_of_heap' HH3.out
  have g3_5 : w3.cell? ⟨b, 5, none⟩ = some (.pointer (some ⟨br, 0, none⟩)) := cell_of_heap' HH3.out
  have g3_6 : w3.cell? ⟨b, 6, none⟩ = some (.pointer (some ⟨bz, 0, none⟩)) := cell_of_heap' HH3.out
  have t3l := HE3.out.2.2.2.1
  have t3r := HE3.out.2.2.2.2
  go_wp2_with fail
  refine Calls.mono (wr_at IH.out Kq.out HQq3.out Nq.out Sq.out HE3.out (by (try simp only [List.length_append, List.length_cons, List.length_nil, by'_len]); omega)) ?_
  rintro e w4 ⟨rfl, he, hb⟩
  have HE4 := Lib.hid he
  have HB4 := Lib.hid (HB3.out.trans hb)
  have HH4 := Lib.hid (node_later HH3.out LB.out hb)
  have HQq4 := Lib.hid (HQq3.out.low hb)
  have HQr4 := Lib.hid (HQr3.out.low hb)
  have HQz4 := Lib.hid (HQz3.out.low hb)
  clear he hb g3_0 g3_2 g3_4 g3_5 g3_6 t3l t3r
  have g4_0 : w4.cell? ⟨b, 0, none⟩ = some (.int .i64 19) := cell_of_heap' HH4.out
  have g4_2 : w4.cell? ⟨b, 2, none⟩ = some (.pointer (some ⟨bt, 0, none⟩)) := cell_of_heap' HH4.out
  have g4_4 : w4.cell? ⟨b, 4, none⟩ = some (.pointer (some ⟨bq, 0, none⟩)) := cell_of_heap' HH4.out
  have g4_5 : w4.cell? ⟨b, 5, none⟩ = some (.pointer (some ⟨br, 0, none⟩)) := cell_of_heap' HH4.out
  have g4_6 : w4.cell? ⟨b, 6, none⟩ = some (.pointer (some ⟨bz, 0, none⟩)) := cell_of_heap' HH4.out
  have t4l := HE4.out.2.2.2.1
  have t4r := HE4.out.2.2.2.2
  go_wp2_with fail
  refine Calls.mono (env_string HE4.out _ [125, 125] rfl (by (try simp only [List.length_append, List.length_cons, List.length_nil, by'_len]); omega)) ?_
  rintro e w5 ⟨rfl, he, hb⟩
  have HE5 := Lib.hid he
  have HB5 := Lib.hid (HB4.out.trans hb)
  have HH5 := Lib.hid (node_later HH4.out LB.out hb)
  have HQq5 := Lib.hid (HQq4.out.low hb)
  have HQr5 := Lib.hid (HQr4.out.low hb)
  have HQz5 := Lib.hid (HQz4.out.low hb)
  clear he hb g4_0 g4_2 g4_4 g4_5 g4_6 t4l t4r
  have g5_0 : w5.cell? ⟨b, 0, none⟩ = some (.int .i64 19) := cell_of_heap' HH5.out
  have g5_2 : w5.cell? ⟨b, 2, none⟩ = some (.pointer (some ⟨bt, 0, none⟩)) := cell_of_heap' HH5.out
  have g5_4 : w5.cell? ⟨b, 4, none⟩ = some (.pointer (some ⟨bq, 0, none⟩)) := cell_of_heap' HH5.out
  have g5_5 : w5.cell? ⟨b, 5, none⟩ = some (.pointer (some ⟨br, 0, none⟩)) := cell_of_heap' HH5.out
  have g5_6 : w5.cell? ⟨b, 6, none⟩ = some (.pointer (some ⟨bz, 0, none⟩)) := cell_of_heap' HH5.out
  have t5l := HE5.out.2.2.2.1
  have t5r := HE5.out.2.2.2.2
  go_wp2_with fail
  refine Calls.mono (wr_at IH.out Kr.out HQr5.out Nr.out Sr.out HE5.out (by (try simp only [List.length_append, List.length_cons, List.length_nil, by'_len]); omega)) ?_
  rintro e w6 ⟨rfl, he, hb⟩
  have HE6 := Lib.hid he
  have HB6 := Lib.hid (HB5.out.trans hb)
  have HH6 := Lib.hid (node_later HH5.out LB.out hb)
  have HQq6 := Lib.hid (HQq5.out.low hb)
  have HQr6 := Lib.hid (HQr5.out.low hb)
  have HQz6 := Lib.hid (HQz5.out.low hb)
  clear he hb g5_0 g5_2 g5_4 g5_5 g5_6 t5l t5r
  have g6_0 : w6.cell? ⟨b, 0, none⟩ = some (.int .i64 19) := cell_of_heap' HH6.out
  have g6_2 : w6.cell? ⟨b, 2, none⟩ = some (.pointer (some ⟨bt, 0, none⟩)) := cell_of_heap' HH6.out
  have g6_4 : w6.cell? ⟨b, 4, none⟩ = some (.pointer (some ⟨bq, 0, none⟩)) := cell_of_heap' HH6.out
  have g6_5 : w6.cell? ⟨b, 5, none⟩ = some (.pointer (some ⟨br, 0, none⟩)) := cell_of_heap' HH6.out
  have g6_6 : w6.cell? ⟨b, 6, none⟩ = some (.pointer (some ⟨bz, 0, none⟩)) := cell_of_heap' HH6.out
  have t6l := HE6.out.2.2.2.1
  have t6r := HE6.out.2.2.2.2
  go_wp2_with fail
  refine Calls.mono (env_string HE6.out _ [123, 123] rfl (by (try simp only [List.length_append, List.length_cons, List.length_nil, by'_len]); omega)) ?_
  rintro e w7 ⟨rfl, he, hb⟩
  have HE7 := Lib.hid he
  have HB7 := Lib.hid (HB6.out.trans hb)
  have HH7 := Lib.hid (node_later HH6.out LB.out hb)
  have HQq7 := Lib.hid (HQq6.out.low hb)
  have HQr7 := Lib.hid (HQr6.out.low hb)
  have HQz7 := Lib.hid (HQz6.out.low hb)
  clear he hb g6_0 g6_2 g6_4 g6_5 g6_6 t6l t6r
  have g7_0 : w7.cell? ⟨b, 0, none⟩ = some (.int .i64 19) := cell_of_heap' HH7.out
  have g7_2 : w7.cell? ⟨b, 2, none⟩ = some (.pointer (some ⟨bt, 0, none⟩)) := cell_of_heap' HH7.out
  have g7_4 : w7.cell? ⟨b, 4, none⟩ = some (.pointer (some ⟨bq, 0, none⟩)) := cell_of_heap' HH7.out
  have g7_5 : w7.cell? ⟨b, 5, none⟩ = some (.pointer (some ⟨br, 0, none⟩)) := cell_of_heap' HH7.out
  have g7_6 : w7.cell? ⟨b, 6, none⟩ = some (.pointer (some ⟨bz, 0, none⟩)) := cell_of_heap' HH7.out
  have t7l := HE7.out.2.2.2.1
  have t7r := HE7.out.2.2.2.2
  go_wp2_with fail
  refine Calls.mono (env_string HE7.out _ [101, 108, 115, 101] rfl (by (try simp only [List.length_append, List.length_cons, List.length_nil, by'_len]); omega)) ?_
  rintro e w8 ⟨rfl, he, hb⟩
  have HE8 := Lib.hid he
  have HB8 := Lib.hid (HB7.out.trans hb)
  have HH8 := Lib.hid (node_later HH7.out LB.out hb)
  have HQq8 := Lib.hid (HQq7.out.low hb)
  have HQr8 := Lib.hid (HQr7.out.low hb)
  have HQz8 := Lib.hid (HQz7.out.low hb)
  clear he hb g7_0 g7_2 g7_4 g7_5 g7_6 t7l t7r
  have g8_0 : w8.cell? ⟨b, 0, none⟩ = some (.int .i64 19) := cell_of_heap' HH8.out
  have g8_2 : w8.cell? ⟨b, 2, none⟩ = some (.pointer (some ⟨bt, 0, none⟩)) := cell_of_heap' HH8.out
  have g8_4 : w8.cell? ⟨b, 4, none⟩ = some (.pointer (some ⟨bq, 0, none⟩)) := cell_of_heap' HH8.out
  have g8_5 : w8.cell? ⟨b, 5, none⟩ = some (.pointer (some ⟨br, 0, none⟩)) := cell_of_heap' HH8.out
  have g8_6 : w8.cell? ⟨b, 6, none⟩ = some (.pointer (some ⟨bz, 0, none⟩)) := cell_of_heap' HH8.out
  have t8l := HE8.out.2.2.2.1
  have t8r := HE8.out.2.2.2.2
  go_wp2_with fail
  refine Calls.mono (env_string HE8.out _ [125, 125] rfl (by (try simp only [List.length_append, List.length_cons, List.length_nil, by'_len]); omega)) ?_
  rintro e w9 ⟨rfl, he, hb⟩
  have HE9 := Lib.hid he
  have HB9 := Lib.hid (HB8.out.trans hb)
  have HH9 := Lib.hid (node_later HH8.out LB.out hb)
  have HQq9 := Lib.hid (HQq8.out.low hb)
  have HQr9 := Lib.hid (HQr8.out.low hb)
  have HQz9 := Lib.hid (HQz8.out.low hb)
  clear he hb g8_0 g8_2 g8_4 g8_5 g8_6 t8l t8r
  have g9_0 : w9.cell? ⟨b, 0, none⟩ = some (.int .i64 19) := cell_of_heap' HH9.out
  have g9_2 : w9.cell? ⟨b, 2, none⟩ = some (.pointer (some ⟨bt, 0, none⟩)) := cell_of_heap' HH9.out
  have g9_4 : w9.cell? ⟨b, 4, none⟩ = some (.pointer (some ⟨bq, 0, none⟩)) := cell_of_heap' HH9.out
  have g9_5 : w9.cell? ⟨b, 5, none⟩ = some (.pointer (some ⟨br, 0, none⟩)) := cell_of_heap' HH9.out
  have g9_6 : w9.cell? ⟨b, 6, none⟩ = some (.pointer (some ⟨bz, 0, none⟩)) := cell_of_heap' HH9.out
  have t9l := HE9.out.2.2.2.1
  have t9r := HE9.out.2.2.2.2
  go_wp2_with fail
  refine Calls.mono (wr_at IH.out Kz.out HQz9.out Nz.out Sz.out HE9.out (by (try simp only [List.length_append, List.length_cons, List.length_nil, by'_len]); omega)) ?_
  rintro e w10 ⟨rfl, he, hb⟩
  have HE10 := Lib.hid he
  have HB10 := Lib.hid (HB9.out.trans hb)
  have HH10 := Lib.hid (node_later HH9.out LB.out hb)
  have HQq10 := Lib.hid (HQq9.out.low hb)
  have HQr10 := Lib.hid (HQr9.out.low hb)
  have HQz10 := Lib.hid (HQz9.out.low hb)
  clear he hb g9_0 g9_2 g9_4 g9_5 g9_6 t9l t9r
  have g10_0 : w10.cell? ⟨b, 0, none⟩ = some (.int .i64 19) := cell_of_heap' HH10.out
  have g10_2 : w10.cell? ⟨b, 2, none⟩ = some (.pointer (some ⟨bt, 0, none⟩)) := cell_of_heap' HH10.out
  have g10_4 : w10.cell? ⟨b, 4, none⟩ = some (.pointer (some ⟨bq, 0, none⟩)) := cell_of_heap' HH10.out
  have g10_5 : w10.cell? ⟨b, 5, none⟩ = some (.pointer (some ⟨br, 0, none⟩)) := cell_of_heap' HH10.out
  have g10_6 : w10.cell? ⟨b, 6, none⟩ = some (.pointer (some ⟨bz, 0, none⟩)) := cell_of_heap' HH10.out
  have t10l := HE10.out.2.2.2.1
  have t10r := HE10.out.2.2.2.2
  go_wp2_with fail
  refine Calls.mono (env_string HE10.out _ [123, 123] rfl (by (try simp only [List.length_append, List.length_cons, List.length_nil, by'_len]); omega)) ?_
  rintro e w11 ⟨rfl, he, hb⟩
  have HE11 := Lib.hid he
  have HB11 := Lib.hid (HB10.out.trans hb)
  have HH11 := Lib.hid (node_later HH10.out LB.out hb)
  have HQq11 := Lib.hid (HQq10.out.low hb)
  have HQr11 := Lib.hid (HQr10.out.low hb)
  have HQz11 := Lib.hid (HQz10.out.low hb)
  clear he hb g10_0 g10_2 g10_4 g10_5 g10_6 t10l t10r
  have g11_0 : w11.cell? ⟨b, 0, none⟩ = some (.int .i64 19) := cell_of_heap' HH11.out
  have g11_2 : w11.cell? ⟨b, 2, none⟩ = some (.pointer (some ⟨bt, 0, none⟩)) := cell_of_heap' HH11.out
  have g11_4 : w11.cell? ⟨b, 4, none⟩ = some (.pointer (some ⟨bq, 0, none⟩)) := cell_of_heap' HH11.out
  have g11_5 : w11.cell? ⟨b, 5, none⟩ = some (.pointer (some ⟨br, 0, none⟩)) := cell_of_heap' HH11.out
  have g11_6 : w11.cell? ⟨b, 6, none⟩ = some (.pointer (some ⟨bz, 0, none⟩)) := cell_of_heap' HH11.out
  have t11l := HE11.out.2.2.2.1
  have t11r := HE11.out.2.2.2.2
  go_wp2_with fail
  refine Calls.mono (env_string HE11.out _ [101, 110, 100] rfl (by (try simp only [List.length_append, List.length_cons, List.length_nil, by'_len]); omega)) ?_
  rintro e w12 ⟨rfl, he, hb⟩
  have HE12 := Lib.hid he
  have HB12 := Lib.hid (HB11.out.trans hb)
  have HH12 := Lib.hid (node_later HH11.out LB.out hb)
  have HQq12 := Lib.hid (HQq11.out.low hb)
  have HQr12 := Lib.hid (HQr11.out.low hb)
  have HQz12 := Lib.hid (HQz11.out.low hb)
  clear he hb g11_0 g11_2 g11_4 g11_5 g11_6 t11l t11r
  have g12_0 : w12.cell? ⟨b, 0, none⟩ = some (.int .i64 19) := cell_of_heap' HH12.out
  have g12_2 : w12.cell? ⟨b, 2, none⟩ = some (.pointer (some ⟨bt, 0, none⟩)) := cell_of_heap' HH12.out
  have g12_4 : w12.cell? ⟨b, 4, none⟩ = some (.pointer (some ⟨bq, 0, none⟩)) := cell_of_heap' HH12.out
  have g12_5 : w12.cell? ⟨b, 5, none⟩ = some (.pointer (some ⟨br, 0, none⟩)) := cell_of_heap' HH12.out
  have g12_6 : w12.cell? ⟨b, 6, none⟩ = some (.pointer (some ⟨bz, 0, none⟩)) := cell_of_heap' HH12.out
  have t12l := HE12.out.2.2.2.1
  have t12r := HE12.out.2.2.2.2
  go_wp2_with fail
  refine Calls.mono (env_string HE12.out _ [125, 125] rfl (by (try simp only [List.length_append, List.length_cons, List.length_nil, by'_len]); omega)) ?_
  rintro e w13 ⟨rfl, he, hb⟩
  have HE13 := Lib.hid he
  have HB13 := Lib.hid (HB12.out.trans hb)
  have HH13 := Lib.hid (node_later HH12.out LB.out hb)
  have HQq13 := Lib.hid (HQq12.out.low hb)
  have HQr13 := Lib.hid (HQr12.out.low hb)
  have HQz13 := Lib.hid (HQz12.out.low hb)
  clear he hb g12_0 g12_2 g12_4 g12_5 g12_6 t12l t12r
  have g13_0 : w13.cell? ⟨b, 0, none⟩ = some (.int .i64 19) := cell_of_heap' HH13.out
  have g13_2 : w13.cell? ⟨b, 2, none⟩ = some (.pointer (some ⟨bt, 0, none⟩)) := cell_of_heap' HH13.out
  have g13_4 : w13.cell? ⟨b, 4, none⟩ = some (.pointer (some ⟨bq, 0, none⟩)) := cell_of_heap' HH13.out
  have g13_5 : w13.cell? ⟨b, 5, none⟩ = some (.pointer (some ⟨br, 0, none⟩)) := cell_of_heap' HH13.out
  have g13_6 : w13.cell? ⟨b, 6, none⟩ = some (.pointer (some ⟨bz, 0, none⟩)) := cell_of_heap' HH13.out
  have t13l := HE13.out.2.2.2.1
  have t13r := HE13.out.2.2.2.2
  go_wp2
  all_goals (first | go_end0 | refine bodyPost_ret (results_none rfl _ _ _) rfl ?_)
  all_goals exact ⟨rfl, by have h := HE13.out; simpa [lbr, rbr, List.append_assoc] using h, HB13.out⟩

end Go.Proofs.YtiogfkpclkkoaaaGreat
