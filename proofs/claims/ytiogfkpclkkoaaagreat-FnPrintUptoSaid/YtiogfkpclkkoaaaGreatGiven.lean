/-
  The walk of laws.given.
-/
import Derived.Test.YtiogfkpclkkoaaaGreatS1
import Derived.Test.YtiogfkpclkkoaaaGreatFactsG
import Derived.LoopTactic
import Derived.Deep.LoopGhost
import Derived.Deep.DeepCutAuto
import Derived.Deep.RegionHeld3
import Derived.BigGuardPart
set_option linter.unusedVariables false
set_option linter.unusedSimpArgs false
namespace Go.Proofs.YtiogfkpclkkoaaaGreat
open Go.RowKit

/-- The parameter's block and the result's block, in a later world. -/
def SG (w W : World) (box zero : Array Value) : Prop :=
  Below w.heap.size w W ∧ W.heap[w.heap.size]? = some (.cells box 25 (0, 0)) ∧ W.heap[w.heap.size + 1]? = some (.cells zero 33 (0, 0))
theorem SG.later {w W W' : World} {box zero : Array Value} (h : SG w W box zero) (hb : Below W.heap.size W W') : SG w W' box zero :=
  ⟨h.1.trans (hb.mono h.1.size), (hb.block _ (lt_of_block h.2.1)).trans h.2.1, (hb.block _ (lt_of_block h.2.2)).trans h.2.2⟩
theorem SG.all {w W : World} {c0 c1 c2 c3 c4 c5 c6 c7 c8 c9 c10 c11 : Value} {zero : Array Value} (h : SG w W #[c0, c1, c2, c3, c4, c5, c6, c7, c8, c9, c10, c11] zero) :
    SG w W #[c0, c1, c2, c3, c4, c5, c6, c7, c8, c9, c10, c11] zero ∧ Below w.heap.size w W ∧ W.cell? ⟨w.heap.size, 0, none⟩ = some c0 ∧ W.cell? ⟨w.heap.size, 1, none⟩ = some c1 ∧ W.cell? ⟨w.heap.size, 2, none⟩ = some c2 ∧ W.cell? ⟨w.heap.size, 3, none⟩ = some c3 ∧ W.cell? ⟨w.heap.size, 4, none⟩ = some c4 ∧ W.cell? ⟨w.heap.size, 5, none⟩ = some c5 ∧ W.cell? ⟨w.heap.size, 6, none⟩ = some c6 ∧ W.cell? ⟨w.heap.size, 7, none⟩ = some c7 ∧ W.cell? ⟨w.heap.size, 8, none⟩ = some c8 ∧ W.cell? ⟨w.heap.size, 9, none⟩ = some c9 :=
  ⟨h, h.1, by simp [World.cell?, h.2.1]⟩

theorem SG.two {w W : World} {box zero : Array Value} (h : SG w W box zero) : w.heap.size + 2 ≤ W.heap.size := lt_of_block h.2.2

theorem SG.rowed {w W : World} {c0 c1 c2 c3 c4 c5 c6 c7 c8 c9 c10 c11 : Value} {zero new : Array Value} (h : SG w W #[c0, c1, c2, c3, c4, c5, c6, c7, c8, c9, c10, c11] zero) :
    Below w.heap.size w (W.setRow (w.heap.size + 1) new) ∧ (W.setRow (w.heap.size + 1) new).cell? ⟨w.heap.size, 0, none⟩ = some c0 ∧ (W.setRow (w.heap.size + 1) new).cell? ⟨w.heap.size, 1, none⟩ = some c1 ∧ (W.setRow (w.heap.size + 1) new).cell? ⟨w.heap.size, 2, none⟩ = some c2 ∧ (W.setRow (w.heap.size + 1) new).cell? ⟨w.heap.size, 3, none⟩ = some c3 ∧ (W.setRow (w.heap.size + 1) new).cell? ⟨w.heap.size, 4, none⟩ = some c4 ∧ (W.setRow (w.heap.size + 1) new).cell? ⟨w.heap.size, 5, none⟩ = some c5 ∧ (W.setRow (w.heap.size + 1) new).cell? ⟨w.heap.size, 6, none⟩ = some c6 ∧ (W.setRow (w.heap.size + 1) new).cell? ⟨w.heap.size, 7, none⟩ = some c7 ∧ (W.setRow (w.heap.size + 1) new).cell? ⟨w.heap.size, 8, none⟩ = some c8 ∧ (W.setRow (w.heap.size + 1) new).cell? ⟨w.heap.size, 9, none⟩ = some c9 := by
  refine ⟨Below.setRow h.1 (by omega) _, ?_⟩
  have e := (setRow_other W (w.heap.size + 1) new w.heap.size (by omega)).trans h.2.1
  simp [World.cell?, e]

theorem GivenPost.done {B d : Nat} {k : Int} {t v : ByteArray} {names : List ByteArray} {tru asg : Bool} {decl kids els : List Nd} {b3 : Bool} {num : Int} {ex : Bool} {w W : World} {nv dv kv ev : Value} {box zero new : Array Value}
    (hB : B ≤ w.heap.size) (h1 : Strs w (· < B) nv names) (hsg : SG w W box zero) (hD : Ins W B (w.heap.size + 2) d dv decl) (hK : Ins W B (w.heap.size + 2) d kv kids) (hE : Ins W B (w.heap.size + 2) d ev els) :
    GivenPost w B (d + 1) (.mk k t v names tru asg decl kids els b3 num ex) (.returned (.agg #[.int .i64 k, .string t, .string v, nv, .bool tru, .bool asg, dv, kv, ev, .bool b3, .bool false, .bool false, .bool false, .bool false, .int .i64 0, .int .u64 0, .int .u64 0])) (W.setRow (w.heap.size + 1) new) := by
  have hk : Keeps (OldNew B (w.heap.size + 2)) W (W.setRow (w.heap.size + 1) new) := Keeps.setRow _ _ _ (fun b hb => by rcases hb with hb | hb <;> omega)
  have hs : Strs (W.setRow (w.heap.size + 1) new) (OldNew B w.heap.size) nv names :=
    Strs.mono (S := OldNew B (w.heap.size + 2)) (fun b hb _ => hb.imp id (by omega)) hk (Strs.mono (fun b hb _ => Or.inl hb) ((Keeps.of_below' hsg.1).mono (fun b hb => Nat.lt_of_lt_of_le hb hB)) h1)
  refine ⟨[_, _, _, _, _, _, _, _, _, _, _, _, _, _, _, _, _], rfl, ?_, Below.setRow hsg.1 (by omega) _⟩
  exact ⟨nv, dv, kv, ev, rfl, hs, hD.keep hk (by omega), hK.keep hk (by omega), hE.keep hk (by omega)⟩

theorem cell_setRow {W : World} {b : Nat} {T : TypeId} {n : Nat} (h : ∃ old, W.heap[b]? = some (.cells old T (0, 0)) ∧ old.size = n) (cs : Array Value) (j : Nat) : (W.setRow b cs).cell? ⟨b, j, none⟩ = cs[j]? := by
  obtain ⟨old, ho, _⟩ := h
  have := setRow_heap W b old cs T (0, 0) ho
  simp [World.cell?, this]

/-- Block b is a row of n cells of type T that may be written. -/
def IsRow (W : World) (b : Nat) (T : TypeId) (n : Nat) : Prop := ∃ old, W.heap[b]? = some (.cells old T (0, 0)) ∧ old.size = n

theorem store17 (W : World) (b : Nat) (x0 x1 x2 x3 x4 x5 x6 x7 x8 x9 x10 x11 x12 x13 x14 x15 x16 : Value) (h : IsRow W b 33 17)
    (h1 : #[x0, x1, x2, x3, x4, x5, x6, x7, x8, x9, x10, x11, x12, x13, x14, x15, x16].all (·.oneCell') = true) :
    (storeVar 33 ⟨b, 0, none⟩ (.agg #[x0, x1, x2, x3, x4, x5, x6, x7, x8, x9, x10, x11, x12, x13, x14, x15, x16])).run Tryz.prog W = .ok () (W.setRow b #[x0, x1, x2, x3, x4, x5, x6, x7, x8, x9, x10, x11, x12, x13, x14, x15, x16]) := by
  obtain ⟨old, ho, hs⟩ := h
  exact run_storeVar_row W b 33 33 old _ ho (by kernel_rfl) hs h1

def St17 (x y : Value) : Sem Unit := Instr.storeAt 33 x y
theorem st17 (x y : Value) : Instr.storeAt 33 x y = St17 x y := rfl
theorem run_st17 (W : World) (b : Nat) (k0 k14 k15 k16 : IntKind) (n0 n14 n15 n16 : Int) (s1 s2 : ByteArray) (a3 a6 a7 a8 : Option Addr) (l3 d3 l6 d6 l7 d7 l8 d8 : Nat) (b4 b5 b9 b10 b11 b12 b13 : Bool) (h : IsRow W b 33 17) :
    (St17 (.pointer (some ⟨b, 0, none⟩)) (.agg #[.int k0 n0, .string s1, .string s2, .slice a3 l3 d3, .bool b4, .bool b5, .slice a6 l6 d6, .slice a7 l7 d7, .slice a8 l8 d8, .bool b9, .bool b10, .bool b11, .bool b12, .bool b13, .int k14 n14, .int k15 n15, .int k16 n16])).run Tryz.prog W = .ok () (W.setRow b #[.int k0 n0, .string s1, .string s2, .slice a3 l3 d3, .bool b4, .bool b5, .slice a6 l6 d6, .slice a7 l7 d7, .slice a8 l8 d8, .bool b9, .bool b10, .bool b11, .bool b12, .bool b13, .int k14 n14, .int k15 n15, .int k16 n16]) := by
  unfold St17
  simp only [Instr.storeAt, Instr.sureAddr, Sem.run_bind, Sem.run_pure, Result.andThen_ok]
  exact store17 W b _ _ _ _ _ _ _ _ _ _ _ _ _ _ _ _ _ h (by simp [Value.oneCell'])
attribute [local go_sem ↓] st17
attribute [local go_sem] run_st17

set_option maxHeartbeats 4000000 in
set_option maxRecDepth 100000 in
theorem given_step (B d : Nat) (ih : ∀ l v w, Sns w B d v l → Sms d l → B ≤ w.heap.size → Calls Tryz.prog 18 #[v] w (GivensPost w B d l))
    (k : Int) (t v : ByteArray) (names : List ByteArray) (tru asg : Bool) (decl kids els : List Nd) (b3 : Bool) (num : Int) (ex : Bool) (w : World) (nv dv kv ev : Value)
    (h1 : Strs w (· < B) nv names) (h2 : Sns w B d dv decl) (h3 : Sns w B d kv kids) (h4 : Sns w B d ev els) (s2 : Sms d decl) (s3 : Sms d kids) (s4 : Sms d els) (hB : B ≤ w.heap.size) :
    Calls Tryz.prog 8 #[.agg #[.int .i64 k, .string t, .string v, nv, .bool tru, .bool asg, dv, kv, ev, .bool b3, .int .i64 num, .bool ex]] w
      (GivenPost w B (d + 1) (.mk k t v names tru asg decl kids els b3 num ex)) := by
  obtain ⟨A1, c1, rfl⟩ := h1.form
  obtain ⟨A2, c2, rfl⟩ := h2.form
  obtain ⟨A3, c3, rfl⟩ := h3.form
  obtain ⟨A4, c4, rfl⟩ := h4.form
  generalize hm1 : names.length = m1 at *
  generalize hm2 : decl.length = m2 at *
  generalize hm3 : kids.length = m3 at *
  generalize hm4 : els.length = m4 at *
  have IH := Lib.hid ih
  have H1 := Lib.hid h1
  have H2 := Lib.hid h2
  have H3 := Lib.hid h3
  have H4 := Lib.hid h4
  have S2 := Lib.hid s2
  have S3 := Lib.hid s3
  have S4 := Lib.hid s4
  clear ih h1 h2 h3 h4 s2 s3 s4 hm1 hm2 hm3 hm4
  go_enter Tryz.func8, Tryz.ntmps8
  go_wp2_with fail
  have hsg0 : SG w ((w.alloc (.cells #[.int .i64 k, .string t, .string v, .slice A1 m1 c1, .bool tru, .bool asg, .slice A2 m2 c2, .slice A3 m3 c3, .slice A4 m4 c4, .bool b3, .int .i64 num, .bool ex] 25)).alloc (.cells #[.int .i64 0, .string ⟨#[]⟩, .string ⟨#[]⟩, .slice none 0 0, .bool false, .bool false, .slice none 0 0, .slice none 0 0, .slice none 0 0, .bool false, .bool false, .bool false, .bool false, .bool false, .int .i64 0, .int .u64 0, .int .u64 0] 33)).drew #[.int .i64 k, .string t, .string v, .slice A1 m1 c1, .bool tru, .bool asg, .slice A2 m2 c2, .slice A3 m3 c3, .slice A4 m4 c4, .bool b3, .int .i64 num, .bool ex] #[.int .i64 0, .string ⟨#[]⟩, .string ⟨#[]⟩, .slice none 0 0, .bool false, .bool false, .slice none 0 0, .slice none 0 0, .slice none 0 0, .bool false, .bool false, .bool false, .bool false, .bool false, .int .i64 0, .int .u64 0, .int .u64 0] :=
    ⟨((below_new _ _).trans ((below_new _ _).mono (by simp))).drew, (by show ((w.alloc _).alloc _).heap[w.heap.size]? = _; rw [Below.heap_alloc _ _ _ (by simp)]; exact heap_alloc_new _ _), (by show ((w.alloc _).alloc _).heap[w.heap.size + 1]? = _; exact heap_alloc2 _ _ _)⟩
  go_region_held3 (fun w' => Below w.heap.size w w' ∧ w'.cell? ⟨w.heap.size, 0, none⟩ = some (.int .i64 k) ∧ w'.cell? ⟨w.heap.size, 1, none⟩ = some (.string t) ∧ w'.cell? ⟨w.heap.size, 2, none⟩ = some (.string v) ∧ w'.cell? ⟨w.heap.size, 3, none⟩ = some (.slice A1 m1 c1) ∧ w'.cell? ⟨w.heap.size, 4, none⟩ = some (.bool tru) ∧ w'.cell? ⟨w.heap.size, 5, none⟩ = some (.bool asg) ∧ w'.cell? ⟨w.heap.size, 6, none⟩ = some (.slice A2 m2 c2) ∧ w'.cell? ⟨w.heap.size, 7, none⟩ = some (.slice A3 m3 c3) ∧ w'.cell? ⟨w.heap.size, 8, none⟩ = some (.slice A4 m4 c4) ∧ w'.cell? ⟨w.heap.size, 9, none⟩ = some (.bool b3))
    (first | exact (SG.all hsg).2 | exact (SG.all hsg0).2 | exact SG.rowed hsg)
    (first
      | (go_at_call_of 18 (Value.slice A2 m2 c2); go_split_ands; refine Calls.mono (IH.out decl (.slice A2 m2 c2) _ ?_ S2.out ?_) ?_; exact Sns.later H2.out (by assumption); exact Nat.le_trans hB (Below.size (B := w.heap.size) (by assumption)); intro e w1 hgp; obtain ⟨rD, rfl, hD, hb⟩ := GivensPost.use (n := w.heap.size + 2) hgp (SG.two (by assumption)); obtain ⟨aD, dD, rfl⟩ := Ins.form hD; have hsg : SG w w1 #[.int .i64 k, .string t, .string v, .slice A1 m1 c1, .bool tru, .bool asg, .slice A2 m2 c2, .slice A3 m3 c3, .slice A4 m4 c4, .bool b3, .int .i64 num, .bool ex] #[.int .i64 0, .string ⟨#[]⟩, .string ⟨#[]⟩, .slice none 0 0, .bool false, .bool false, .slice none 0 0, .slice none 0 0, .slice none 0 0, .bool false, .bool false, .bool false, .bool false, .bool false, .int .i64 0, .int .u64 0, .int .u64 0] := SG.later (by assumption) hb; (try clear hz); have hz : IsRow w1 (w.heap.size + 1) 33 17 := ⟨_, hsg.2.2, rfl⟩; (try replace hK := Ins.later hK hb (Nat.le_refl _)); (try replace hE := Ins.later hE hb (Nat.le_refl _)))
      | (go_at_call_of 18 (Value.slice A3 m3 c3); go_split_ands; refine Calls.mono (IH.out kids (.slice A3 m3 c3) _ ?_ S3.out ?_) ?_; exact Sns.later H3.out (by assumption); exact Nat.le_trans hB (Below.size (B := w.heap.size) (by assumption)); intro e w1 hgp; obtain ⟨rK, rfl, hK, hb⟩ := GivensPost.use (n := w.heap.size + 2) hgp (SG.two (by assumption)); obtain ⟨aK, dK, rfl⟩ := Ins.form hK; have hsg : SG w w1 #[.int .i64 k, .string t, .string v, .slice A1 m1 c1, .bool tru, .bool asg, .slice A2 m2 c2, .slice A3 m3 c3, .slice A4 m4 c4, .bool b3, .int .i64 num, .bool ex] #[.int .i64 0, .string ⟨#[]⟩, .string ⟨#[]⟩, .slice none 0 0, .bool false, .bool false, .slice none 0 0, .slice none 0 0, .slice none 0 0, .bool false, .bool false, .bool false, .bool false, .bool false, .int .i64 0, .int .u64 0, .int .u64 0] := SG.later (by assumption) hb; (try clear hz); have hz : IsRow w1 (w.heap.size + 1) 33 17 := ⟨_, hsg.2.2, rfl⟩; (try replace hD := Ins.later hD hb (Nat.le_refl _)); (try replace hE := Ins.later hE hb (Nat.le_refl _)))
      | (go_at_call_of 18 (Value.slice A4 m4 c4); go_split_ands; refine Calls.mono (IH.out els (.slice A4 m4 c4) _ ?_ S4.out ?_) ?_; exact Sns.later H4.out (by assumption); exact Nat.le_trans hB (Below.size (B := w.heap.size) (by assumption)); intro e w1 hgp; obtain ⟨rE, rfl, hE, hb⟩ := GivensPost.use (n := w.heap.size + 2) hgp (SG.two (by assumption)); obtain ⟨aE, dE, rfl⟩ := Ins.form hE; have hsg : SG w w1 #[.int .i64 k, .string t, .string v, .slice A1 m1 c1, .bool tru, .bool asg, .slice A2 m2 c2, .slice A3 m3 c3, .slice A4 m4 c4, .bool b3, .int .i64 num, .bool ex] #[.int .i64 0, .string ⟨#[]⟩, .string ⟨#[]⟩, .slice none 0 0, .bool false, .bool false, .slice none 0 0, .slice none 0 0, .slice none 0 0, .bool false, .bool false, .bool false, .bool false, .bool false, .int .i64 0, .int .u64 0, .int .u64 0] := SG.later (by assumption) hb; (try clear hz); have hz : IsRow w1 (w.heap.size + 1) 33 17 := ⟨_, hsg.2.2, rfl⟩; (try replace hD := Ins.later hD hb (Nat.le_refl _)); (try replace hK := Ins.later hK hb (Nat.le_refl _))))
  all_goals go_wp2
  all_goals
    refine bodyPost_ret (v := .agg #[.int .i64 k, .string t, .string v, .slice A1 m1 c1, .bool tru, .bool asg, .slice aD decl.length dD, .slice aK kids.length dK, .slice aE els.length dE, .bool b3, .bool false, .bool false, .bool false, .bool false, .int .i64 0, .int .u64 0, .int .u64 0]) (by simp [results, Tryz.results8, go_sem, cell_setRow hz]) rfl ?_
    exact GivenPost.done hB (by have h := H1.out; exact h) hsg hD hK hE
end Go.Proofs.YtiogfkpclkkoaaaGreat
