/-
  The walk of impl.built at the kinds without kids. Printed by py/builta.py.
-/
import Derived.Test.YtiogfkpclkkoaaaGreatProg
import Derived.Test.YtiogfkpclkkoaaaGreatFactsB
import Derived.WalkKit
import Derived.WalkSpells
import Derived.WalkLawsBesides
import Derived.Lib.Hide
import Derived.LoopTactic
import Derived.Deep.LoopGhost
import Derived.Deep.DeepCutAuto
import Derived.Deep.RegionHeld3
import Derived.BigGuardPart
import Derived.Laws.IdiomStrings
set_option linter.unusedVariables false
set_option linter.unusedSimpArgs false
namespace Go.Proofs.YtiogfkpclkkoaaaGreat
open Go.RowKit

theorem heap_alloc3 (w : World) (o o' o'' : Obj) : (((w.alloc o).alloc o').alloc o'').heap[w.heap.size + 2]? = some o'' := by
  have h := heap_alloc2 (w.alloc o) o' o''
  rwa [World.size_alloc] at h

theorem text_done {B d : Nat} {n : Nd} (hk : n.kind = 1) (o : Obj) (cap : Nat) (hcap : n.text.size ≤ cap) (w : World) (c c' : Nat) :
    BuiltPost w B (d + 1) n (.returned (.tuple #[.iface 50 (.pointer (some ⟨w.heap.size + 2, 0, none⟩)), .bool true]))
      (((w.alloc o).alloc (.cells (bytesRow n.text cap) 5 (c, c'))).alloc (.cells #[.int .i64 0, .int .i64 0, .pointer none, .slice (some ⟨w.heap.size + 1, 0, none⟩) n.text.size cap] 56)).drew.drew := by
  have hb : Below w.heap.size w (((w.alloc o).alloc (.cells (bytesRow n.text cap) 5 (c, c'))).alloc (.cells #[.int .i64 0, .int .i64 0, .pointer none, .slice (some ⟨w.heap.size + 1, 0, none⟩) n.text.size cap] 56)) :=
    below_trans (below_trans (below_new _ _) (below_new _ _)) (below_new _ _)
  refine ⟨w.heap.size + 2, by simp [ifc, hk, ptrT], PN.new (trv := .pointer none) (by omega) rfl ?_ (.text hk ⟨w.heap.size + 1, cap, rfl, hcap, Or.inr (by omega), by simp, fun j hj => ?_⟩), hb.drew.drew⟩
  · have h := heap_alloc2 (w.alloc o) (.cells (bytesRow n.text cap) 5 (c, c')) (.cells #[.int .i64 0, .int .i64 0, .pointer none, .slice (some ⟨w.heap.size + 1, 0, none⟩) n.text.size cap] 56)
    rw [World.size_alloc] at h
    exact h
  · show ((((w.alloc o).alloc (.cells (bytesRow n.text cap) 5 (c, c'))).alloc _) : World).cell? _ = _
    have h1 := World.cell?_alloc_mark (w.alloc o) (bytesRow n.text cap) 5 (c, c') j
    rw [World.size_alloc, bytesRow_at _ _ _ (by simpa using hj)] at h1
    rw [World.cell?_alloc_past _ _ _ (by simp), h1]
    simp

set_option maxHeartbeats 1000000 in
set_option maxRecDepth 100000 in
theorem built_comment (B d : Nat) (t v : ByteArray) (names : List ByteArray) (tru asg : Bool) (decl els : List Nd) (b3 : Bool) (num : Int) (ex : Bool) (w : World) (A1 A2 A3 A4 : Option Addr) (m2 m4 c1 c2 c3 c4 : Nat) (hB : B ≤ w.heap.size)
    (hn : Strs w (· < B) (.slice A1 names.length c1) names) :
    Calls Tryz.prog 16 #[.agg #[.int .i64 19, .string t, .string v, .slice A1 names.length c1, .bool tru, .bool asg, .slice A2 m2 c2, .slice A3 0 c3, .slice A4 m4 c4, .bool b3, .bool false, .bool false, .bool false, .bool false, .int .i64 0, .int .u64 0, .int .u64 0]] w
      (BuiltPost w B (d + 1) (.mk 19 t v names tru asg decl [] els b3 num ex)) := by
  have HN := Lib.hid hn
  clear hn
  generalize names.length = m1 at *
  go_enter Tryz.func16, Tryz.ntmps16
  go_wp2_with fail
  go_region
  go_wp2
  go_ret2
  exact ⟨w.heap.size + 1, rfl, PN.new (trv := .pointer none) (by omega) rfl (heap_alloc2 w _ _) (.comment rfl), (Below.drew (below_trans (below_new _ _) (below_new _ _)))⟩

set_option maxHeartbeats 1000000 in
set_option maxRecDepth 100000 in
theorem built_bool (B d : Nat) (t v : ByteArray) (names : List ByteArray) (tru asg : Bool) (decl els : List Nd) (b3 : Bool) (num : Int) (ex : Bool) (w : World) (A1 A2 A3 A4 : Option Addr) (m2 m4 c1 c2 c3 c4 : Nat) (hB : B ≤ w.heap.size)
    (hn : Strs w (· < B) (.slice A1 names.length c1) names) :
    Calls Tryz.prog 16 #[.agg #[.int .i64 3, .string t, .string v, .slice A1 names.length c1, .bool tru, .bool asg, .slice A2 m2 c2, .slice A3 0 c3, .slice A4 m4 c4, .bool b3, .bool false, .bool false, .bool false, .bool false, .int .i64 0, .int .u64 0, .int .u64 0]] w
      (BuiltPost w B (d + 1) (.mk 3 t v names tru asg decl [] els b3 num ex)) := by
  have HN := Lib.hid hn
  clear hn
  generalize names.length = m1 at *
  go_enter Tryz.func16, Tryz.ntmps16
  go_wp2_with fail
  go_region
  go_wp2
  go_ret2
  exact ⟨w.heap.size + 1, rfl, PN.new (trv := .pointer none) (by omega) rfl (heap_alloc2 w _ _) (.bool rfl), (Below.drew (below_trans (below_new _ _) (below_new _ _)))⟩

set_option maxHeartbeats 1000000 in
set_option maxRecDepth 100000 in
theorem built_dot (B d : Nat) (t v : ByteArray) (names : List ByteArray) (tru asg : Bool) (decl els : List Nd) (b3 : Bool) (num : Int) (ex : Bool) (w : World) (A1 A2 A3 A4 : Option Addr) (m2 m4 c1 c2 c3 c4 : Nat) (hB : B ≤ w.heap.size)
    (hn : Strs w (· < B) (.slice A1 names.length c1) names) :
    Calls Tryz.prog 16 #[.agg #[.int .i64 6, .string t, .string v, .slice A1 names.length c1, .bool tru, .bool asg, .slice A2 m2 c2, .slice A3 0 c3, .slice A4 m4 c4, .bool b3, .bool false, .bool false, .bool false, .bool false, .int .i64 0, .int .u64 0, .int .u64 0]] w
      (BuiltPost w B (d + 1) (.mk 6 t v names tru asg decl [] els b3 num ex)) := by
  have HN := Lib.hid hn
  clear hn
  generalize names.length = m1 at *
  go_enter Tryz.func16, Tryz.ntmps16
  go_wp2_with fail
  go_region
  go_wp2
  go_ret2
  exact ⟨w.heap.size + 1, rfl, PN.new (trv := .pointer none) (by omega) rfl (heap_alloc2 w _ _) (.dot rfl), (Below.drew (below_trans (below_new _ _) (below_new _ _)))⟩

set_option maxHeartbeats 1000000 in
set_option maxRecDepth 100000 in
theorem built_field (B d : Nat) (t v : ByteArray) (names : List ByteArray) (tru asg : Bool) (decl els : List Nd) (b3 : Bool) (num : Int) (ex : Bool) (w : World) (A1 A2 A3 A4 : Option Addr) (m2 m4 c1 c2 c3 c4 : Nat) (hB : B ≤ w.heap.size)
    (hn : Strs w (· < B) (.slice A1 names.length c1) names) :
    Calls Tryz.prog 16 #[.agg #[.int .i64 7, .string t, .string v, .slice A1 names.length c1, .bool tru, .bool asg, .slice A2 m2 c2, .slice A3 0 c3, .slice A4 m4 c4, .bool b3, .bool false, .bool false, .bool false, .bool false, .int .i64 0, .int .u64 0, .int .u64 0]] w
      (BuiltPost w B (d + 1) (.mk 7 t v names tru asg decl [] els b3 num ex)) := by
  have HN := Lib.hid hn
  clear hn
  generalize names.length = m1 at *
  go_enter Tryz.func16, Tryz.ntmps16
  go_wp2_with fail
  go_region
  go_wp2
  go_ret2
  exact ⟨w.heap.size + 1, rfl, PN.new (trv := .pointer none) (by omega) rfl (heap_alloc2 w _ _) (.field rfl (Strs.toNew HN.out (Below.drew (below_trans (below_new _ _) (below_new _ _))))), (Below.drew (below_trans (below_new _ _) (below_new _ _)))⟩

set_option maxHeartbeats 1000000 in
set_option maxRecDepth 100000 in
theorem built_ident (B d : Nat) (t v : ByteArray) (names : List ByteArray) (tru asg : Bool) (decl els : List Nd) (b3 : Bool) (num : Int) (ex : Bool) (w : World) (A1 A2 A3 A4 : Option Addr) (m2 m4 c1 c2 c3 c4 : Nat) (hB : B ≤ w.heap.size)
    (hn : Strs w (· < B) (.slice A1 names.length c1) names) :
    Calls Tryz.prog 16 #[.agg #[.int .i64 8, .string t, .string v, .slice A1 names.length c1, .bool tru, .bool asg, .slice A2 m2 c2, .slice A3 0 c3, .slice A4 m4 c4, .bool b3, .bool false, .bool false, .bool false, .bool false, .int .i64 0, .int .u64 0, .int .u64 0]] w
      (BuiltPost w B (d + 1) (.mk 8 t v names tru asg decl [] els b3 num ex)) := by
  have HN := Lib.hid hn
  clear hn
  generalize names.length = m1 at *
  go_enter Tryz.func16, Tryz.ntmps16
  go_wp2_with fail
  go_region
  go_wp2
  go_ret2
  exact ⟨w.heap.size + 1, rfl, PN.new (trv := .pointer none) (by omega) rfl (heap_alloc2 w _ _) (.ident rfl), (Below.drew (below_trans (below_new _ _) (below_new _ _)))⟩

set_option maxHeartbeats 1000000 in
set_option maxRecDepth 100000 in
theorem built_nil (B d : Nat) (t v : ByteArray) (names : List ByteArray) (tru asg : Bool) (decl els : List Nd) (b3 : Bool) (num : Int) (ex : Bool) (w : World) (A1 A2 A3 A4 : Option Addr) (m2 m4 c1 c2 c3 c4 : Nat) (hB : B ≤ w.heap.size)
    (hn : Strs w (· < B) (.slice A1 names.length c1) names) :
    Calls Tryz.prog 16 #[.agg #[.int .i64 11, .string t, .string v, .slice A1 names.length c1, .bool tru, .bool asg, .slice A2 m2 c2, .slice A3 0 c3, .slice A4 m4 c4, .bool b3, .bool false, .bool false, .bool false, .bool false, .int .i64 0, .int .u64 0, .int .u64 0]] w
      (BuiltPost w B (d + 1) (.mk 11 t v names tru asg decl [] els b3 num ex)) := by
  have HN := Lib.hid hn
  clear hn
  generalize names.length = m1 at *
  go_enter Tryz.func16, Tryz.ntmps16
  go_wp2_with fail
  go_region
  go_wp2
  go_ret2
  exact ⟨w.heap.size + 1, rfl, PN.new (trv := .pointer none) (by omega) rfl (heap_alloc2 w _ _) (.nil rfl), (Below.drew (below_trans (below_new _ _) (below_new _ _)))⟩

set_option maxHeartbeats 1000000 in
set_option maxRecDepth 100000 in
theorem built_str (B d : Nat) (t v : ByteArray) (names : List ByteArray) (tru asg : Bool) (decl els : List Nd) (b3 : Bool) (num : Int) (ex : Bool) (w : World) (A1 A2 A3 A4 : Option Addr) (m2 m4 c1 c2 c3 c4 : Nat) (hB : B ≤ w.heap.size)
    (hn : Strs w (· < B) (.slice A1 names.length c1) names) :
    Calls Tryz.prog 16 #[.agg #[.int .i64 15, .string t, .string v, .slice A1 names.length c1, .bool tru, .bool asg, .slice A2 m2 c2, .slice A3 0 c3, .slice A4 m4 c4, .bool b3, .bool false, .bool false, .bool false, .bool false, .int .i64 0, .int .u64 0, .int .u64 0]] w
      (BuiltPost w B (d + 1) (.mk 15 t v names tru asg decl [] els b3 num ex)) := by
  have HN := Lib.hid hn
  clear hn
  generalize names.length = m1 at *
  go_enter Tryz.func16, Tryz.ntmps16
  go_wp2_with fail
  go_region
  go_wp2
  go_ret2
  exact ⟨w.heap.size + 1, rfl, PN.new (trv := .pointer none) (by omega) rfl (heap_alloc2 w _ _) (.str rfl), (Below.drew (below_trans (below_new _ _) (below_new _ _)))⟩

set_option maxHeartbeats 1000000 in
set_option maxRecDepth 100000 in
theorem built_var (B d : Nat) (t v : ByteArray) (names : List ByteArray) (tru asg : Bool) (decl els : List Nd) (b3 : Bool) (num : Int) (ex : Bool) (w : World) (A1 A2 A3 A4 : Option Addr) (m2 m4 c1 c2 c3 c4 : Nat) (hB : B ≤ w.heap.size)
    (hn : Strs w (· < B) (.slice A1 names.length c1) names) :
    Calls Tryz.prog 16 #[.agg #[.int .i64 17, .string t, .string v, .slice A1 names.length c1, .bool tru, .bool asg, .slice A2 m2 c2, .slice A3 0 c3, .slice A4 m4 c4, .bool b3, .bool false, .bool false, .bool false, .bool false, .int .i64 0, .int .u64 0, .int .u64 0]] w
      (BuiltPost w B (d + 1) (.mk 17 t v names tru asg decl [] els b3 num ex)) := by
  have HN := Lib.hid hn
  clear hn
  generalize names.length = m1 at *
  go_enter Tryz.func16, Tryz.ntmps16
  go_wp2_with fail
  go_region
  go_wp2
  go_ret2
  exact ⟨w.heap.size + 1, rfl, PN.new (trv := .pointer none) (by omega) rfl (heap_alloc2 w _ _) (.var rfl (Strs.toNew HN.out (Below.drew (below_trans (below_new _ _) (below_new _ _))))), (Below.drew (below_trans (below_new _ _) (below_new _ _)))⟩

set_option maxHeartbeats 1000000 in
set_option maxRecDepth 100000 in
theorem built_brk (B d : Nat) (t v : ByteArray) (names : List ByteArray) (tru asg : Bool) (decl els : List Nd) (b3 : Bool) (num : Int) (ex : Bool) (w : World) (A1 A2 A3 A4 : Option Addr) (m2 m4 c1 c2 c3 c4 : Nat) (hB : B ≤ w.heap.size)
    (hn : Strs w (· < B) (.slice A1 names.length c1) names) :
    Calls Tryz.prog 16 #[.agg #[.int .i64 20, .string t, .string v, .slice A1 names.length c1, .bool tru, .bool asg, .slice A2 m2 c2, .slice A3 0 c3, .slice A4 m4 c4, .bool b3, .bool false, .bool false, .bool false, .bool false, .int .i64 0, .int .u64 0, .int .u64 0]] w
      (BuiltPost w B (d + 1) (.mk 20 t v names tru asg decl [] els b3 num ex)) := by
  have HN := Lib.hid hn
  clear hn
  generalize names.length = m1 at *
  go_enter Tryz.func16, Tryz.ntmps16
  go_wp2_with fail
  go_region
  go_wp2
  go_ret2
  exact ⟨w.heap.size + 1, rfl, PN.new (trv := .pointer none) (by omega) rfl (heap_alloc2 w _ _) (.brk rfl), (Below.drew (below_trans (below_new _ _) (below_new _ _)))⟩

set_option maxHeartbeats 1000000 in
set_option maxRecDepth 100000 in
theorem built_cont (B d : Nat) (t v : ByteArray) (names : List ByteArray) (tru asg : Bool) (decl els : List Nd) (b3 : Bool) (num : Int) (ex : Bool) (w : World) (A1 A2 A3 A4 : Option Addr) (m2 m4 c1 c2 c3 c4 : Nat) (hB : B ≤ w.heap.size)
    (hn : Strs w (· < B) (.slice A1 names.length c1) names) :
    Calls Tryz.prog 16 #[.agg #[.int .i64 21, .string t, .string v, .slice A1 names.length c1, .bool tru, .bool asg, .slice A2 m2 c2, .slice A3 0 c3, .slice A4 m4 c4, .bool b3, .bool false, .bool false, .bool false, .bool false, .int .i64 0, .int .u64 0, .int .u64 0]] w
      (BuiltPost w B (d + 1) (.mk 21 t v names tru asg decl [] els b3 num ex)) := by
  have HN := Lib.hid hn
  clear hn
  generalize names.length = m1 at *
  go_enter Tryz.func16, Tryz.ntmps16
  go_wp2_with fail
  go_region
  go_wp2
  go_ret2
  exact ⟨w.heap.size + 1, rfl, PN.new (trv := .pointer none) (by omega) rfl (heap_alloc2 w _ _) (.cont rfl), (Below.drew (below_trans (below_new _ _) (below_new _ _)))⟩

set_option maxHeartbeats 1000000 in
set_option maxRecDepth 100000 in
theorem built_text (B d : Nat) (t v : ByteArray) (names : List ByteArray) (tru asg : Bool) (decl els : List Nd) (b3 : Bool) (num : Int) (ex : Bool) (w : World) (A1 A2 A3 A4 : Option Addr) (m2 m4 c1 c2 c3 c4 : Nat) (hB : B ≤ w.heap.size)
    (hn : Strs w (· < B) (.slice A1 names.length c1) names) :
    Calls Tryz.prog 16 #[.agg #[.int .i64 1, .string t, .string v, .slice A1 names.length c1, .bool tru, .bool asg, .slice A2 m2 c2, .slice A3 0 c3, .slice A4 m4 c4, .bool b3, .bool false, .bool false, .bool false, .bool false, .int .i64 0, .int .u64 0, .int .u64 0]] w
      (BuiltPost w B (d + 1) (.mk 1 t v names tru asg decl [] els b3 num ex)) := by
  have HN := Lib.hid hn
  clear hn
  generalize names.length = m1 at *
  have hconv := fun W => run_bytes_of_string (P := Tryz.prog) W 9 52 5 t Tryz.underlying9 Tryz.underlying52 Tryz.underlying5
  go_enter Tryz.func16, Tryz.ntmps16
  go_wp2_with fail
  go_region
  go_wp2
  go_ret2
  exact text_done rfl _ _ (grownCap_ge _ _ _ _) w _ _

set_option maxHeartbeats 1000000 in
set_option maxRecDepth 100000 in
theorem built_num (B d : Nat) (t v : ByteArray) (names : List ByteArray) (tru asg : Bool) (decl els : List Nd) (b3 : Bool) (num : Int) (ex : Bool) (w : World) (A1 A2 A3 A4 : Option Addr) (m2 m4 c1 c2 c3 c4 : Nat) (hB : B ≤ w.heap.size)
    (hn : Strs w (· < B) (.slice A1 names.length c1) names) :
    Calls Tryz.prog 16 #[.agg #[.int .i64 12, .string t, .string v, .slice A1 names.length c1, .bool tru, .bool asg, .slice A2 m2 c2, .slice A3 0 c3, .slice A4 m4 c4, .bool b3, .bool false, .bool false, .bool false, .bool false, .int .i64 0, .int .u64 0, .int .u64 0]] w
      (BuiltPost w B (d + 1) (.mk 12 t v names tru asg decl [] els b3 num ex)) := by
  have HN := Lib.hid hn
  clear hn
  generalize names.length = m1 at *
  have hf : ∀ w, (callFunc 23 #[.int .u64 0]).run Tryz.prog w = .ok (.value (.float .f64 0)) w := fun w => by kernel_rfl
  go_enter Tryz.func16, Tryz.ntmps16
  go_wp2_with fail
  go_region_held3 (fun w' => w'.cell? ⟨w.heap.size, 1, none⟩ = some (.string t) ∧ w'.cell? ⟨w.heap.size, 7, none⟩ = some (.slice A3 0 c3) ∧ w'.cell? ⟨w.heap.size + 1, 0, none⟩ = some (.bool false) ∧ w'.cell? ⟨w.heap.size + 1, 1, none⟩ = some (.bool false) ∧ w'.cell? ⟨w.heap.size + 1, 2, none⟩ = some (.bool false) ∧ w'.cell? ⟨w.heap.size + 1, 3, none⟩ = some (.bool false) ∧ w'.cell? ⟨w.heap.size + 1, 4, none⟩ = some (.int .i64 0) ∧ w'.cell? ⟨w.heap.size + 1, 5, none⟩ = some (.int .u64 0) ∧ w'.cell? ⟨w.heap.size + 1, 6, none⟩ = some (.int .u64 0))
    (go_keep) (first | fail)
  go_wp2
  go_ret2
  exact ⟨w.heap.size + 2, rfl, PN.new (trv := .pointer none) (by omega) rfl (heap_alloc3 w _ _ _) (.num rfl _ _ _ _ _ _ _ _ _), (below_trans (below_trans (below_new _ _) (below_new _ _)) (below_new _ _)).drew⟩

end Go.Proofs.YtiogfkpclkkoaaaGreat
