/-
  The texts of the nodes without nodes below them. Printed by py/wra.py.
  The writers of the nodes without nodes below them. Printed by py/wra.py.
-/
import Derived.Test.YtiogfkpclkkoaaaGreatWr
import Derived.Laws.IdiomStrings
import Derived.BigRegion
import Derived.Deep.QuietTactic
import Derived.BigQuiet
set_option linter.unusedVariables false
set_option linter.unusedSimpArgs false
namespace Go.Proofs.YtiogfkpclkkoaaaGreat
open Go.RowKit

def StrPost (w : World) (s : ByteArray) (e : Ending) (w' : World) : Prop := e = .returned (.string s) ∧ (w' = w ∨ w' = w.drew)
theorem StrPost.env {w w' : World} {s : ByteArray} {e : Ending} (h : StrPost w s e w') : e = .returned (.string s) ∧ (∀ B bt sb l, Env B bt sb l w → Env B bt sb l w' ∧ Below B w w') := by
  obtain ⟨rfl, rfl | rfl⟩ := h
  · exact ⟨rfl, fun B bt sb l h => ⟨h, Below.refl _ _⟩⟩
  · exact ⟨rfl, fun B bt sb l h => ⟨h.later (h.1.of_heap rfl) (Below.refl B w).drew, (Below.refl B w).drew⟩⟩

set_option maxHeartbeats 1000000 in
set_option maxRecDepth 100000 in
theorem str_text {bt b : Nat} {n : Nd} {w : World} {bv : Value} {S : Nat → Prop} (hx : Bytes w S bv n.text) (hh : w.heap[b]? = some (.cells #[.int .i64 0, .int .i64 0, .pointer (some ⟨bt, 0, none⟩), bv] 56 (0, 0))) :
    Calls Tryz.prog 48 #[.pointer (some ⟨b, 0, none⟩)] w (StrPost w n.text) := by
  obtain ⟨g, cap, rfl, _, _, _, hc⟩ := hx
  have g1 : w.cell? ⟨b, 3, none⟩ = some (.slice (some ⟨g, 0, none⟩) n.text.size cap) := cell_of_heap' hh
  have hcv := Go.run_convert_bytes_back (P := Tryz.prog) w 52 9 5 ⟨g, 0, none⟩ cap n.text.data.toList Tryz.underlying52 Tryz.underlying5 Tryz.underlying9 (fun j hj => by
    rw [show (⟨g, 0, none⟩ : Addr).add j = ⟨g, j, none⟩ by unfold Addr.add; split <;> simp_all]
    exact hc j hj)
  rw [show n.text.data.toList.length = n.text.size by simp] at hcv
  replace hcv : (convert 52 9 (.slice (some ⟨g, 0, none⟩) n.text.size cap)).run Tryz.prog w = .ok (.string n.text) w := hcv
  clear hc hh
  generalize n.text = t at *
  go_enter Tryz.func48, Tryz.ntmps48
  go_wp2
  go_ret
  exact ⟨rfl, Or.inl rfl⟩

set_option maxHeartbeats 1000000 in
set_option maxRecDepth 100000 in
theorem str_ident {bt b : Nat} {n : Nd} {w : World} (hh : w.heap[b]? = some (.cells #[.int .i64 9, .int .i64 0, .pointer (some ⟨bt, 0, none⟩), .string n.text] 71 (0, 0))) :
    Calls Tryz.prog 76 #[.pointer (some ⟨b, 0, none⟩)] w (StrPost w n.text) := by
  have g1 : w.cell? ⟨b, 3, none⟩ = some (.string n.text) := cell_of_heap' hh
  clear hh
  generalize n.text = t at *
  go_enter Tryz.func76, Tryz.ntmps76
  go_wp2
  go_ret
  exact ⟨rfl, Or.inl rfl⟩

set_option maxHeartbeats 1000000 in
set_option maxRecDepth 100000 in
theorem str_num {bt b : Nat} {n : Nd} {w : World} (b1 b2 b3 b4 : Bool) (x y : Int) (f re im : Nat) (hh : w.heap[b]? = some (.cells #[.int .i64 13, .int .i64 0, .pointer (some ⟨bt, 0, none⟩), .bool b1, .bool b2, .bool b3, .bool b4, .int .i64 x, .int .u64 y, .float .f64 f, .complex .f64 re im, .string n.text] 79 (0, 0))) :
    Calls Tryz.prog 85 #[.pointer (some ⟨b, 0, none⟩)] w (StrPost w n.text) := by
  have g1 : w.cell? ⟨b, 11, none⟩ = some (.string n.text) := cell_of_heap' hh
  clear hh
  generalize n.text = t at *
  go_enter Tryz.func85, Tryz.ntmps85
  go_wp2
  go_ret
  exact ⟨rfl, Or.inl rfl⟩

set_option maxHeartbeats 1000000 in
set_option maxRecDepth 100000 in
theorem str_str {bt b : Nat} {n : Nd} {w : World} (hh : w.heap[b]? = some (.cells #[.int .i64 16, .int .i64 0, .pointer (some ⟨bt, 0, none⟩), .string n.text, .string n.value] 82 (0, 0))) :
    Calls Tryz.prog 90 #[.pointer (some ⟨b, 0, none⟩)] w (StrPost w n.text) := by
  have g1 : w.cell? ⟨b, 3, none⟩ = some (.string n.text) := cell_of_heap' hh
  clear hh
  generalize n.text = t at *
  go_enter Tryz.func90, Tryz.ntmps90
  go_wp2
  go_ret
  exact ⟨rfl, Or.inl rfl⟩

set_option maxHeartbeats 1000000 in
set_option maxRecDepth 100000 in
theorem str_bool {bt b : Nat} {n : Nd} {w : World} (hh : w.heap[b]? = some (.cells #[.int .i64 2, .int .i64 0, .pointer (some ⟨bt, 0, none⟩), .bool n.tru] 62 (0, 0))) :
    Calls Tryz.prog 62 #[.pointer (some ⟨b, 0, none⟩)] w (StrPost w (if n.tru then ⟨#[116, 114, 117, 101]⟩ else ⟨#[102, 97, 108, 115, 101]⟩)) := by
  have g1 : w.cell? ⟨b, 3, none⟩ = some (.bool n.tru) := cell_of_heap' hh
  clear hh
  generalize n.tru = tt at *
  cases tt
  all_goals
    go_enter Tryz.func62, Tryz.ntmps62
    go_wp2
    go_ret
    exact ⟨rfl, Or.inl rfl⟩

set_option maxHeartbeats 1000000 in
set_option maxRecDepth 100000 in
theorem str_dot {bt b : Nat} {n : Nd} {w : World} (hh : w.heap[b]? = some (.cells #[.int .i64 5, .int .i64 0, .pointer (some ⟨bt, 0, none⟩)] 65 (0, 0))) :
    Calls Tryz.prog 66 #[.pointer (some ⟨b, 0, none⟩)] w (StrPost w ⟨#[46]⟩) := by
  go_enter Tryz.func66, Tryz.ntmps66
  go_wp2
  go_ret
  exact ⟨rfl, Or.inl rfl⟩

set_option maxHeartbeats 1000000 in
set_option maxRecDepth 100000 in
theorem str_nil {bt b : Nat} {n : Nd} {w : World} (hh : w.heap[b]? = some (.cells #[.int .i64 12, .int .i64 0, .pointer (some ⟨bt, 0, none⟩)] 73 (0, 0))) :
    Calls Tryz.prog 80 #[.pointer (some ⟨b, 0, none⟩)] w (StrPost w ⟨#[110, 105, 108]⟩) := by
  go_enter Tryz.func80, Tryz.ntmps80
  go_wp2
  go_ret
  exact ⟨rfl, Or.inl rfl⟩

set_option maxHeartbeats 1000000 in
set_option maxRecDepth 100000 in
theorem str_brk {bt b : Nat} {n : Nd} {w : World} (ht : w.cell? ⟨bt, 25, none⟩ = some (.string ⟨#[123, 123]⟩)) (ht' : w.cell? ⟨bt, 26, none⟩ = some (.string ⟨#[125, 125]⟩)) (hh : w.heap[b]? = some (.cells #[.pointer (some ⟨bt, 0, none⟩), .int .i64 21, .int .i64 0, .int .i64 0] 87 (0, 0))) :
    Calls Tryz.prog 98 #[.pointer (some ⟨b, 0, none⟩)] w (StrPost w ⟨#[123, 123, 98, 114, 101, 97, 107, 125, 125]⟩) := by
  have g1 : w.cell? ⟨b, 0, none⟩ = some (.pointer (some ⟨bt, 0, none⟩)) := cell_of_heap' hh
  clear hh
  go_enter Tryz.func98, Tryz.ntmps98
  go_wp2_with fail
  go_region
  all_goals go_wp2
  all_goals go_ret
  all_goals exact ⟨rfl, Or.inr rfl⟩

set_option maxHeartbeats 1000000 in
set_option maxRecDepth 100000 in
theorem str_cont {bt b : Nat} {n : Nd} {w : World} (ht : w.cell? ⟨bt, 25, none⟩ = some (.string ⟨#[123, 123]⟩)) (ht' : w.cell? ⟨bt, 26, none⟩ = some (.string ⟨#[125, 125]⟩)) (hh : w.heap[b]? = some (.cells #[.pointer (some ⟨bt, 0, none⟩), .int .i64 22, .int .i64 0, .int .i64 0] 89 (0, 0))) :
    Calls Tryz.prog 102 #[.pointer (some ⟨b, 0, none⟩)] w (StrPost w ⟨#[123, 123, 99, 111, 110, 116, 105, 110, 117, 101, 125, 125]⟩) := by
  have g1 : w.cell? ⟨b, 0, none⟩ = some (.pointer (some ⟨bt, 0, none⟩)) := cell_of_heap' hh
  clear hh
  go_enter Tryz.func102, Tryz.ntmps102
  go_wp2_with fail
  go_region
  all_goals go_wp2
  all_goals go_ret
  all_goals exact ⟨rfl, Or.inr rfl⟩

end Go.Proofs.YtiogfkpclkkoaaaGreat

set_option linter.unusedVariables false
set_option linter.unusedSimpArgs false
namespace Go.Proofs.YtiogfkpclkkoaaaGreat
open Go.RowKit

set_option maxHeartbeats 1000000 in
set_option maxRecDepth 100000 in
theorem wr_text {B bt sb b d : Nat} {n : Nd} {l : List UInt8} {w : World} (h : n.kind = 1) {bv : Value} {S : Nat → Prop} (hx : Bytes w S bv n.text) (hh : w.heap[b]? = some (.cells #[.int .i64 0, .int .i64 0, .pointer (some ⟨bt, 0, none⟩), bv] 56 (0, 0))) (he : Env B bt sb l w) (hl : l.length + (pr (d + 1) n).length ≤ 140737488355328) :
    Calls Tryz.prog 51 #[.pointer (some ⟨b, 0, none⟩), .pointer (some ⟨sb, 0, none⟩)] w (WrPost B bt sb w (l ++ pr (d + 1) n)) := by
  have e0 : pr (d + 1) n = by' n.text := by simp [pr, h]
  have hs := str_text (n := n) hx hh
  rw [e0] at hl ⊢
  have HS := Lib.hid hs
  have HE := Lib.hid he
  clear hs he hh e0 h hx
  generalize n.text = t at *
  go_enter Tryz.func51, Tryz.ntmps51
  go_wp2_with fail
  refine Calls.mono HS.out ?_
  intro e w1 hp
  have hq := hp.env
  clear hp
  obtain ⟨rfl, hq⟩ := hq
  obtain ⟨he1, hb1⟩ := hq _ _ _ _ HE.out
  have HE1 := Lib.hid he1
  have HB1 := Lib.hid hb1
  clear hq he1 hb1
  go_wp2_with fail
  refine Calls.mono (env_string HE1.out _ _ rfl hl) ?_
  rintro e w2 ⟨rfl, he2, hb2⟩
  have HE2 := Lib.hid he2
  have HB2 := Lib.hid (HB1.out.trans hb2)
  clear he2 hb2
  go_wp2
  all_goals (first | go_end0 | refine bodyPost_ret (results_none rfl _ _ _) rfl ?_)
  all_goals exact ⟨rfl, HE2.out, HB2.out⟩

set_option maxHeartbeats 1000000 in
set_option maxRecDepth 100000 in
theorem wr_ident {B bt sb b d : Nat} {n : Nd} {l : List UInt8} {w : World} (h : n.kind = 8) (hh : w.heap[b]? = some (.cells #[.int .i64 9, .int .i64 0, .pointer (some ⟨bt, 0, none⟩), .string n.text] 71 (0, 0))) (he : Env B bt sb l w) (hl : l.length + (pr (d + 1) n).length ≤ 140737488355328) :
    Calls Tryz.prog 78 #[.pointer (some ⟨b, 0, none⟩), .pointer (some ⟨sb, 0, none⟩)] w (WrPost B bt sb w (l ++ pr (d + 1) n)) := by
  have e0 : pr (d + 1) n = by' n.text := by simp [pr, h]
  have hs := str_ident (n := n) hh
  rw [e0] at hl ⊢
  have HS := Lib.hid hs
  have HE := Lib.hid he
  clear hs he hh e0 h
  generalize n.text = t at *
  go_enter Tryz.func78, Tryz.ntmps78
  go_wp2_with fail
  refine Calls.mono HS.out ?_
  intro e w1 hp
  have hq := hp.env
  clear hp
  obtain ⟨rfl, hq⟩ := hq
  obtain ⟨he1, hb1⟩ := hq _ _ _ _ HE.out
  have HE1 := Lib.hid he1
  have HB1 := Lib.hid hb1
  clear hq he1 hb1
  go_wp2_with fail
  refine Calls.mono (env_string HE1.out _ _ rfl hl) ?_
  rintro e w2 ⟨rfl, he2, hb2⟩
  have HE2 := Lib.hid he2
  have HB2 := Lib.hid (HB1.out.trans hb2)
  clear he2 hb2
  go_wp2
  all_goals (first | go_end0 | refine bodyPost_ret (results_none rfl _ _ _) rfl ?_)
  all_goals exact ⟨rfl, HE2.out, HB2.out⟩

set_option maxHeartbeats 1000000 in
set_option maxRecDepth 100000 in
theorem wr_num {B bt sb b d : Nat} {n : Nd} {l : List UInt8} {w : World} (h : n.kind = 12) (b1 b2 b3 b4 : Bool) (x y : Int) (f re im : Nat) (hh : w.heap[b]? = some (.cells #[.int .i64 13, .int .i64 0, .pointer (some ⟨bt, 0, none⟩), .bool b1, .bool b2, .bool b3, .bool b4, .int .i64 x, .int .u64 y, .float .f64 f, .complex .f64 re im, .string n.text] 79 (0, 0))) (he : Env B bt sb l w) (hl : l.length + (pr (d + 1) n).length ≤ 140737488355328) :
    Calls Tryz.prog 88 #[.pointer (some ⟨b, 0, none⟩), .pointer (some ⟨sb, 0, none⟩)] w (WrPost B bt sb w (l ++ pr (d + 1) n)) := by
  have e0 : pr (d + 1) n = by' n.text := by simp [pr, h]
  have hs := str_num (n := n) b1 b2 b3 b4 x y f re im hh
  rw [e0] at hl ⊢
  have HS := Lib.hid hs
  have HE := Lib.hid he
  clear hs he hh e0 h
  generalize n.text = t at *
  go_enter Tryz.func88, Tryz.ntmps88
  go_wp2_with fail
  refine Calls.mono HS.out ?_
  intro e w1 hp
  have hq := hp.env
  clear hp
  obtain ⟨rfl, hq⟩ := hq
  obtain ⟨he1, hb1⟩ := hq _ _ _ _ HE.out
  have HE1 := Lib.hid he1
  have HB1 := Lib.hid hb1
  clear hq he1 hb1
  go_wp2_with fail
  refine Calls.mono (env_string HE1.out _ _ rfl hl) ?_
  rintro e w2 ⟨rfl, he2, hb2⟩
  have HE2 := Lib.hid he2
  have HB2 := Lib.hid (HB1.out.trans hb2)
  clear he2 hb2
  go_wp2
  all_goals (first | go_end0 | refine bodyPost_ret (results_none rfl _ _ _) rfl ?_)
  all_goals exact ⟨rfl, HE2.out, HB2.out⟩

set_option maxHeartbeats 1000000 in
set_option maxRecDepth 100000 in
theorem wr_str {B bt sb b d : Nat} {n : Nd} {l : List UInt8} {w : World} (h : n.kind = 15) (hh : w.heap[b]? = some (.cells #[.int .i64 16, .int .i64 0, .pointer (some ⟨bt, 0, none⟩), .string n.text, .string n.value] 82 (0, 0))) (he : Env B bt sb l w) (hl : l.length + (pr (d + 1) n).length ≤ 140737488355328) :
    Calls Tryz.prog 92 #[.pointer (some ⟨b, 0, none⟩), .pointer (some ⟨sb, 0, none⟩)] w (WrPost B bt sb w (l ++ pr (d + 1) n)) := by
  have e0 : pr (d + 1) n = by' n.text := by simp [pr, h]
  have hs := str_str (n := n) hh
  rw [e0] at hl ⊢
  have HS := Lib.hid hs
  have HE := Lib.hid he
  clear hs he hh e0 h
  generalize n.text = t at *
  go_enter Tryz.func92, Tryz.ntmps92
  go_wp2_with fail
  refine Calls.mono HS.out ?_
  intro e w1 hp
  have hq := hp.env
  clear hp
  obtain ⟨rfl, hq⟩ := hq
  obtain ⟨he1, hb1⟩ := hq _ _ _ _ HE.out
  have HE1 := Lib.hid he1
  have HB1 := Lib.hid hb1
  clear hq he1 hb1
  go_wp2_with fail
  refine Calls.mono (env_string HE1.out _ _ rfl hl) ?_
  rintro e w2 ⟨rfl, he2, hb2⟩
  have HE2 := Lib.hid he2
  have HB2 := Lib.hid (HB1.out.trans hb2)
  clear he2 hb2
  go_wp2
  all_goals (first | go_end0 | refine bodyPost_ret (results_none rfl _ _ _) rfl ?_)
  all_goals exact ⟨rfl, HE2.out, HB2.out⟩

set_option maxHeartbeats 1000000 in
set_option maxRecDepth 100000 in
theorem wr_bool {B bt sb b d : Nat} {n : Nd} {l : List UInt8} {w : World} (h : n.kind = 3) (hh : w.heap[b]? = some (.cells #[.int .i64 2, .int .i64 0, .pointer (some ⟨bt, 0, none⟩), .bool n.tru] 62 (0, 0))) (he : Env B bt sb l w) (hl : l.length + (pr (d + 1) n).length ≤ 140737488355328) :
    Calls Tryz.prog 64 #[.pointer (some ⟨b, 0, none⟩), .pointer (some ⟨sb, 0, none⟩)] w (WrPost B bt sb w (l ++ pr (d + 1) n)) := by
  have e0 : pr (d + 1) n = (if n.tru then [116, 114, 117, 101] else [102, 97, 108, 115, 101]) := by simp [pr, h]
  have hs := str_bool (n := n) hh
  rw [e0] at hl ⊢
  have hx : ((if n.tru then ⟨#[116, 114, 117, 101]⟩ else ⟨#[102, 97, 108, 115, 101]⟩ : ByteArray)).data.toList = (if n.tru then [116, 114, 117, 101] else [102, 97, 108, 115, 101]) := by cases n.tru <;> rfl
  generalize (if n.tru then ⟨#[116, 114, 117, 101]⟩ else ⟨#[102, 97, 108, 115, 101]⟩ : ByteArray) = t at *
  generalize (if n.tru then [116, 114, 117, 101] else [102, 97, 108, 115, 101] : List UInt8) = x' at *
  have HX := Lib.hid hx
  clear hx
  have HS := Lib.hid hs
  have HE := Lib.hid he
  clear hs he hh e0 h
  go_enter Tryz.func64, Tryz.ntmps64
  go_wp2_with fail
  refine Calls.mono HS.out ?_
  intro e w1 hp
  have hq := hp.env
  clear hp
  obtain ⟨rfl, hq⟩ := hq
  obtain ⟨he1, hb1⟩ := hq _ _ _ _ HE.out
  have HE1 := Lib.hid he1
  have HB1 := Lib.hid hb1
  clear hq he1 hb1
  go_wp2_with fail
  refine Calls.mono (env_string HE1.out _ _ HX.out hl) ?_
  rintro e w2 ⟨rfl, he2, hb2⟩
  have HE2 := Lib.hid he2
  have HB2 := Lib.hid (HB1.out.trans hb2)
  clear he2 hb2
  go_wp2
  all_goals (first | go_end0 | refine bodyPost_ret (results_none rfl _ _ _) rfl ?_)
  all_goals exact ⟨rfl, HE2.out, HB2.out⟩

set_option maxHeartbeats 1000000 in
set_option maxRecDepth 100000 in
theorem wr_dot {B bt sb b d : Nat} {n : Nd} {l : List UInt8} {w : World} (h : n.kind = 6) (hh : w.heap[b]? = some (.cells #[.int .i64 5, .int .i64 0, .pointer (some ⟨bt, 0, none⟩)] 65 (0, 0))) (he : Env B bt sb l w) (hl : l.length + (pr (d + 1) n).length ≤ 140737488355328) :
    Calls Tryz.prog 69 #[.pointer (some ⟨b, 0, none⟩), .pointer (some ⟨sb, 0, none⟩)] w (WrPost B bt sb w (l ++ pr (d + 1) n)) := by
  have e0 : pr (d + 1) n = [46] := by simp [pr, h]
  have hs := str_dot (n := n) hh
  rw [e0] at hl ⊢
  have HS := Lib.hid hs
  have HE := Lib.hid he
  clear hs he hh e0 h
  go_enter Tryz.func69, Tryz.ntmps69
  go_wp2_with fail
  refine Calls.mono HS.out ?_
  intro e w1 hp
  have hq := hp.env
  clear hp
  obtain ⟨rfl, hq⟩ := hq
  obtain ⟨he1, hb1⟩ := hq _ _ _ _ HE.out
  have HE1 := Lib.hid he1
  have HB1 := Lib.hid hb1
  clear hq he1 hb1
  go_wp2_with fail
  refine Calls.mono (env_string HE1.out _ _ rfl hl) ?_
  rintro e w2 ⟨rfl, he2, hb2⟩
  have HE2 := Lib.hid he2
  have HB2 := Lib.hid (HB1.out.trans hb2)
  clear he2 hb2
  go_wp2
  all_goals (first | go_end0 | refine bodyPost_ret (results_none rfl _ _ _) rfl ?_)
  all_goals exact ⟨rfl, HE2.out, HB2.out⟩

set_option maxHeartbeats 1000000 in
set_option maxRecDepth 100000 in
theorem wr_nil {B bt sb b d : Nat} {n : Nd} {l : List UInt8} {w : World} (h : n.kind = 11) (hh : w.heap[b]? = some (.cells #[.int .i64 12, .int .i64 0, .pointer (some ⟨bt, 0, none⟩)] 73 (0, 0))) (he : Env B bt sb l w) (hl : l.length + (pr (d + 1) n).length ≤ 140737488355328) :
    Calls Tryz.prog 83 #[.pointer (some ⟨b, 0, none⟩), .pointer (some ⟨sb, 0, none⟩)] w (WrPost B bt sb w (l ++ pr (d + 1) n)) := by
  have e0 : pr (d + 1) n = [110, 105, 108] := by simp [pr, h]
  have hs := str_nil (n := n) hh
  rw [e0] at hl ⊢
  have HS := Lib.hid hs
  have HE := Lib.hid he
  clear hs he hh e0 h
  go_enter Tryz.func83, Tryz.ntmps83
  go_wp2_with fail
  refine Calls.mono HS.out ?_
  intro e w1 hp
  have hq := hp.env
  clear hp
  obtain ⟨rfl, hq⟩ := hq
  obtain ⟨he1, hb1⟩ := hq _ _ _ _ HE.out
  have HE1 := Lib.hid he1
  have HB1 := Lib.hid hb1
  clear hq he1 hb1
  go_wp2_with fail
  refine Calls.mono (env_string HE1.out _ _ rfl hl) ?_
  rintro e w2 ⟨rfl, he2, hb2⟩
  have HE2 := Lib.hid he2
  have HB2 := Lib.hid (HB1.out.trans hb2)
  clear he2 hb2
  go_wp2
  all_goals (first | go_end0 | refine bodyPost_ret (results_none rfl _ _ _) rfl ?_)
  all_goals exact ⟨rfl, HE2.out, HB2.out⟩

set_option maxHeartbeats 1000000 in
set_option maxRecDepth 100000 in
theorem wr_brk {B bt sb b d : Nat} {n : Nd} {l : List UInt8} {w : World} (h : n.kind = 20) (hh : w.heap[b]? = some (.cells #[.pointer (some ⟨bt, 0, none⟩), .int .i64 21, .int .i64 0, .int .i64 0] 87 (0, 0))) (he : Env B bt sb l w) (hl : l.length + (pr (d + 1) n).length ≤ 140737488355328) :
    Calls Tryz.prog 100 #[.pointer (some ⟨b, 0, none⟩), .pointer (some ⟨sb, 0, none⟩)] w (WrPost B bt sb w (l ++ pr (d + 1) n)) := by
  have e0 : pr (d + 1) n = lbr ++ [98, 114, 101, 97, 107] ++ rbr := by simp [pr, h]
  have hs := str_brk (n := n) he.2.2.2.1 he.2.2.2.2 hh
  rw [e0] at hl ⊢
  have HS := Lib.hid hs
  have HE := Lib.hid he
  clear hs he hh e0 h
  go_enter Tryz.func100, Tryz.ntmps100
  go_wp2_with fail
  refine Calls.mono HS.out ?_
  intro e w1 hp
  have hq := hp.env
  clear hp
  obtain ⟨rfl, hq⟩ := hq
  obtain ⟨he1, hb1⟩ := hq _ _ _ _ HE.out
  have HE1 := Lib.hid he1
  have HB1 := Lib.hid hb1
  clear hq he1 hb1
  go_wp2_with fail
  refine Calls.mono (env_string HE1.out _ _ rfl hl) ?_
  rintro e w2 ⟨rfl, he2, hb2⟩
  have HE2 := Lib.hid he2
  have HB2 := Lib.hid (HB1.out.trans hb2)
  clear he2 hb2
  go_wp2
  all_goals (first | go_end0 | refine bodyPost_ret (results_none rfl _ _ _) rfl ?_)
  all_goals exact ⟨rfl, HE2.out, HB2.out⟩

set_option maxHeartbeats 1000000 in
set_option maxRecDepth 100000 in
theorem wr_cont {B bt sb b d : Nat} {n : Nd} {l : List UInt8} {w : World} (h : n.kind = 21) (hh : w.heap[b]? = some (.cells #[.pointer (some ⟨bt, 0, none⟩), .int .i64 22, .int .i64 0, .int .i64 0] 89 (0, 0))) (he : Env B bt sb l w) (hl : l.length + (pr (d + 1) n).length ≤ 140737488355328) :
    Calls Tryz.prog 104 #[.pointer (some ⟨b, 0, none⟩), .pointer (some ⟨sb, 0, none⟩)] w (WrPost B bt sb w (l ++ pr (d + 1) n)) := by
  have e0 : pr (d + 1) n = lbr ++ [99, 111, 110, 116, 105, 110, 117, 101] ++ rbr := by simp [pr, h]
  have hs := str_cont (n := n) he.2.2.2.1 he.2.2.2.2 hh
  rw [e0] at hl ⊢
  have HS := Lib.hid hs
  have HE := Lib.hid he
  clear hs he hh e0 h
  go_enter Tryz.func104, Tryz.ntmps104
  go_wp2_with fail
  refine Calls.mono HS.out ?_
  intro e w1 hp
  have hq := hp.env
  clear hp
  obtain ⟨rfl, hq⟩ := hq
  obtain ⟨he1, hb1⟩ := hq _ _ _ _ HE.out
  have HE1 := Lib.hid he1
  have HB1 := Lib.hid hb1
  clear hq he1 hb1
  go_wp2_with fail
  refine Calls.mono (env_string HE1.out _ _ rfl hl) ?_
  rintro e w2 ⟨rfl, he2, hb2⟩
  have HE2 := Lib.hid he2
  have HB2 := Lib.hid (HB1.out.trans hb2)
  clear he2 hb2
  go_wp2
  all_goals (first | go_end0 | refine bodyPost_ret (results_none rfl _ _ _) rfl ?_)
  all_goals exact ⟨rfl, HE2.out, HB2.out⟩

end Go.Proofs.YtiogfkpclkkoaaaGreat
