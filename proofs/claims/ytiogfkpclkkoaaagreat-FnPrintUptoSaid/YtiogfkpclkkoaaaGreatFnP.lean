/-
  The walks of parse.ZZTree and impl.Print.
  The walk of laws.FnPrint.
-/
import Derived.Test.YtiogfkpclkkoaaaGreatStrJ
import Derived.Test.YtiogfkpclkkoaaaGreatBuiltJ
import Derived.Test.YtiogfkpclkkoaaaGreatSpL
import Derived.Test.YtiogfkpclkkoaaaGreatSpJ
import Derived.Test.YtiogfkpclkkoaaaGreatShapedJ
import Derived.Test.YtiogfkpclkkoaaaGreatNamed
import Derived.Deep.RegionHeld3
set_option linter.unusedVariables false
set_option linter.unusedSimpArgs false
namespace Go.Proofs.YtiogfkpclkkoaaaGreat
open Go.RowKit

/-- What parse.ZZTree leaves: every node has the tree at bt, which bears the usual delimiters. -/
def TreePost (w : World) (base d b : Nat) (n : Nd) (e : Ending) (w' : World) : Prop :=
  ∃ bt, e = .returned (.tuple #[]) ∧ bt < w'.heap.size ∧ w'.cell? ⟨bt, 25, none⟩ = some (.string ⟨#[123, 123]⟩) ∧ w'.cell? ⟨bt, 26, none⟩ = some (.string ⟨#[125, 125]⟩) ∧
    PN w' 0 (· < w'.heap.size) (TrIs (some ⟨bt, 0, none⟩)) d b n ∧ Below base w w'

theorem PN.lower {w : World} {base : Nat} {S : Nat → Prop} {tr : Value → Prop} : ∀ {d b : Nat} {n : Nd}, PN w base S tr d b n → PN w 0 (· < w.heap.size) tr d b n := fun {d b n} h =>
  PN.mono (Nat.zero_le _) (fun _ _ h => h) (fun _ _ _ => rfl) d b n h

set_option maxHeartbeats 1000000 in
set_option maxRecDepth 100000 in
theorem zzTree_any (base : Nat) (S : Nat → Prop) (d b : Nat) (n : Nd) (w : World) (h : PN w base S TrPtr d b n) (hs : Sm d n) (hbase : base ≤ w.heap.size) :
    Calls Tryz.prog 17 #[ifc n b] w (TreePost w base d b n) := by
  have HS := Lib.hid hs
  have H := Lib.hid h
  clear hs h
  unfold ifc
  generalize hK : ptrT n.kind = K
  have HK := Lib.hid hK
  clear hK
  go_enter Tryz.func17, Tryz.ntmps17
  go_wp2_with fail
  have hpn := fun o => PN.mono (w' := w.alloc o) (Nat.le_refl base) (fun _ h _ => h) (fun x _ hl => (below_new w o).block x hl) d b n H.out
  have hc := zz_all base (some ⟨w.heap.size, 0, none⟩) S d b n _ (hpn (.cells #[.string ⟨#[]⟩, .string ⟨#[]⟩, .pointer none, .int .u64 0, .string ⟨#[]⟩, .slice none 0 0, .pointer none, .int .i64 0, .int .i64 0, .string ⟨#[]⟩, .int .i64 0, .int .i64 0, .int .i64 0, .string ⟨#[]⟩, .int .i64 0, .int .i64 0, .int .i64 0, .string ⟨#[]⟩, .int .i64 0, .int .i64 0, .slice none 0 0, .map none, .int .i64 0, .int .i64 0, .int .i64 0, .string ⟨#[123, 123]⟩, .string ⟨#[125, 125]⟩] 134)) HS.out
  unfold ifc at hc
  rw [HK.out] at hc
  refine Calls.mono hc ?_
  rintro e w2 ⟨rfl, hst, hp2⟩
  have hrow := hst.row (heap_alloc_new w _) (show triOf 134 = none by decide)
  have hsz := hst.2.1
  have hbt : w.heap.size < w2.heap.size := lt_of_block hrow
  have hpost : TreePost w base d b n (.returned (.tuple #[])) w2 := ⟨w.heap.size, rfl, hbt, cell_of_heap' hrow, cell_of_heap' hrow, hp2.lower, ((Below.refl base w).alloc hbase _).trans hst.1⟩
  have HP := Lib.hid hpost
  clear hc hpn hst hp2 hrow hsz hbt hpost
  go_wp2
  all_goals (first | go_end0 | refine bodyPost_ret (results_none rfl _ _ _) rfl ?_)
  all_goals exact HP.out

attribute [local go_sem ↓] ldN
attribute [local go_sem] run_ldN_new

set_option maxHeartbeats 1000000 in
set_option maxRecDepth 100000 in
theorem impl_print (B d : Nat) (n : Nd) (k : Int) (w : World) (A1 A2 A3 A4 : Option Addr) (m1 m2 m3 m4 c1 c2 c3 c4 : Nat)
    (h : IN w (· < B) (d + 1) [.int .i64 k, .string n.text, .string n.value, .slice A1 m1 c1, .bool n.tru, .bool n.assign, .slice A2 m2 c2, .slice A3 m3 c3, .slice A4 m4 c4, .bool n.hasElse, .bool false, .bool false, .bool false, .bool false, .int .i64 0, .int .u64 0, .int .u64 0] n)
    (hs : Sm (d + 1) n) (hp : Shp (d + 1) n) (hn : Nmd (d + 1) n) (hB : B ≤ w.heap.size) :
    Calls Tryz.prog 7 #[.agg #[.int .i64 k, .string n.text, .string n.value, .slice A1 m1 c1, .bool n.tru, .bool n.assign, .slice A2 m2 c2, .slice A3 m3 c3, .slice A4 m4 c4, .bool n.hasElse, .bool false, .bool false, .bool false, .bool false, .int .i64 0, .int .u64 0, .int .u64 0]] w (StrDone w (pr (d + 1) n)) := by
  have hlen := pr_len (d + 1) n hp
  have hlen' : (pr (d + 1) n).length ≤ 140737488355328 := by simp only [Sm] at hs; omega
  have H := Lib.hid h
  have HS := Lib.hid hs
  have HP := Lib.hid hp
  have HN := Lib.hid hn
  have HL := Lib.hid hlen'
  clear h hs hp hn hlen hlen'
  go_enter Tryz.func7, Tryz.ntmps7
  go_wp2_with fail
  refine Calls.mono (built_any B (d + 1) [_, _, _, _, _, _, _, _, _, _, _, _, _, _, _, _, _] n _ (IN.mono (fun _ h _ => h) (Keeps.of_below (below_new _ _)) _ _ _ H.out) HS.out HP.out (by simp only [World.size_alloc]; omega)) ?_
  rintro e w1 ⟨bq, rfl, hpn, hb⟩
  have hko := hpn.kindOk
  have hzt := zzTree_any _ _ _ _ _ _ (PN.tr_imp (tr' := TrPtr) (fun v hv => ⟨none, hv⟩) _ _ _ hpn) HS.out hb.size
  have mm := fun w => method_str hko bq w
  have ee := hasBody_str hko
  unfold HasBody at ee
  unfold ifc at hzt ⊢
  have KO := Lib.hid hko
  have HB := Lib.hid hb
  clear hpn hb hko
  obtain ⟨K, hK⟩ : ∃ K, ptrT n.kind = K := ⟨_, rfl⟩
  obtain ⟨F, hF⟩ : ∃ F, strF n.kind = F := ⟨_, rfl⟩
  rw [hK] at hzt ⊢
  have mm' : ∀ w, (method 299 K (.pointer (some ⟨bq, 0, none⟩)) "String").run Tryz.prog w = .ok (F, .pointer (some ⟨bq, 0, none⟩)) w := fun w => by rw [← hK, ← hF]; exact mm w
  rw [hF] at ee
  have HF := Lib.hid hF
  have HZ := Lib.hid hzt
  clear hK hF hzt mm
  go_wp2_with fail
  refine Calls.mono HZ.out ?_
  rintro e w2 ⟨bt, rfl, hbt, t1, t2, hp2, hb2⟩
  have hs2 := str_any bt _ _ _ _ hp2 HN.out HS.out hbt t1 t2 HL.out
  rw [HF.out] at hs2
  have HC := Lib.hid hs2
  have HB2 := Lib.hid (HB.out.trans hb2)
  clear hbt t1 t2 hp2 hb2 hs2
  go_wp2_with fail
  refine Calls.mono HC.out ?_
  rintro e w3 ⟨rfl, hb3⟩
  have HB3 := Lib.hid (below_trans (below_alloc HB2.out) hb3)
  clear hb3
  go_wp2
  go_ret
  exact ⟨rfl, HB3.out⟩

/-- The node that is a dot. -/
def dotNode : Nd := .mk 6 ⟨#[]⟩ ⟨#[]⟩ [] false false [] [] [] false 0 false
theorem dot_print (B : Nat) (w : World) (hB : B ≤ w.heap.size) :
    Calls Tryz.prog 7 #[.agg #[.int .i64 6, .string ⟨#[]⟩, .string ⟨#[]⟩, .slice none 0 0, .bool false, .bool false, .slice none 0 0, .slice none 0 0, .slice none 0 0, .bool false, .bool false, .bool false, .bool false, .bool false, .int .i64 0, .int .u64 0, .int .u64 0]] w (StrDone w [46]) :=
  impl_print B 0 dotNode 6 w none none none none 0 0 0 0 0 0 0 0 ⟨_, _, _, _, rfl, Row.nil _ _ _ _, Row.nil _ _ _ _, Row.nil _ _ _ _, Row.nil _ _ _ _⟩ (show wt 1 dotNode ≤ 1048576 by decide)
    ⟨nofun, nofun, nofun, Or.inl ⟨rfl, rfl, nmK_no (show ¬ (6 : Int) = 7 by decide) (show ¬ (6 : Int) = 4 by decide)⟩⟩ ⟨nofun, nofun, nofun⟩ hB

end Go.Proofs.YtiogfkpclkkoaaaGreat

set_option linter.unusedVariables false
set_option linter.unusedSimpArgs false
namespace Go.Proofs.YtiogfkpclkkoaaaGreat
open Go.RowKit

/-- The parameter's block, in a later world. -/
def XG (w W : World) (row : Array Value) : Prop := Below w.heap.size w W ∧ W.heap[w.heap.size]? = some (.cells row 25 (0, 0))
theorem XG.later {w W W' : World} {row : Array Value} (h : XG w W row) (hb : Below W.heap.size W W') : XG w W' row :=
  ⟨h.1.trans (hb.mono h.1.size), (hb.block _ (lt_of_block h.2)).trans h.2⟩
theorem XG.below {w W : World} {row : Array Value} (h : XG w W row) : Below w.heap.size w W := h.1
theorem XG.drew {w W : World} {row : Array Value} (h : XG w W row) : XG w W.drew row := ⟨h.1.drew, h.2⟩
theorem XG.ld {w W : World} {c0 c1 c2 c3 c4 c5 c6 c7 c8 c9 c10 c11 : Value} (h : XG w W #[c0, c1, c2, c3, c4, c5, c6, c7, c8, c9, c10, c11]) :
    XG w W #[c0, c1, c2, c3, c4, c5, c6, c7, c8, c9, c10, c11] ∧ (LdS (.pointer (some ⟨w.heap.size, 0, none⟩))).run Tryz.prog W = .ok (.agg #[c0, c1, c2, c3, c4, c5, c6, c7, c8, c9, c10, c11]) W :=
  ⟨h, run_ldS W w.heap.size 0 [c0, c1, c2, c3, c4, c5, c6, c7, c8, c9, c10, c11] rfl (fun j hj => by
    rw [Nat.zero_add, cell_of_row _ _ j _ _ _ h.2]
    simp)⟩

attribute [local go_sem ↓] ldS
attribute [local go_sem] run_ldS_new

def FnPPost (w : World) (e : Ending) (w' : World) : Prop := e = .returned (.bool true) ∧ Below w.heap.size w w'

set_option maxHeartbeats 8000000 in
set_option maxRecDepth 100000 in
theorem fnPrint_walk (d : Nat) (n : Nd) (k : Int) (w : World) (A1 A2 A3 A4 : Option Addr) (m1 m2 m3 m4 c1 c2 c3 c4 : Nat) (hkk : n.kind = k)
    (h : SN w (· < w.heap.size) (d + 1) [.int .i64 k, .string n.text, .string n.value, .slice A1 m1 c1, .bool n.tru, .bool n.assign, .slice A2 m2 c2, .slice A3 m3 c3, .slice A4 m4 c4, .bool n.hasElse, .int .i64 n.num, .bool n.exact] n)
    (hs : Sm (d + 1) n) :
    Calls Tryz.prog 3 #[.agg #[.int .i64 k, .string n.text, .string n.value, .slice A1 m1 c1, .bool n.tru, .bool n.assign, .slice A2 m2 c2, .slice A3 m3 c3, .slice A4 m4 c4, .bool n.hasElse, .int .i64 n.num, .bool n.exact]] w (FnPPost w) := by
  have hxg0 : XG w (w.alloc (.cells #[.int .i64 k, .string n.text, .string n.value, .slice A1 m1 c1, .bool n.tru, .bool n.assign, .slice A2 m2 c2, .slice A3 m3 c3, .slice A4 m4 c4, .bool n.hasElse, .int .i64 n.num, .bool n.exact] 25)) #[.int .i64 k, .string n.text, .string n.value, .slice A1 m1 c1, .bool n.tru, .bool n.assign, .slice A2 m2 c2, .slice A3 m3 c3, .slice A4 m4 c4, .bool n.hasElse, .int .i64 n.num, .bool n.exact] := ⟨below_new _ _, heap_alloc_new _ _⟩
  have X0 := Lib.hid hxg0
  have H := Lib.hid h
  have HS := Lib.hid hs
  have KK := Lib.hid hkk
  clear hxg0 h hs hkk
  obtain ⟨S, hS⟩ : ∃ S : ByteArray, S = strOf (pr (d + 1) n) := ⟨_, rfl⟩
  have ES := Lib.hid hS
  clear hS
  go_enter Tryz.func3, Tryz.ntmps3
  go_wp2_with (go_at_call 4; refine Calls.mono (fits3_any d [_, _, _, _, _, _, _, _, _, _, _, _] n (· < w.heap.size) _ (SN.mono (fun _ h _ => h) (Keeps.of_below X0.out.1) _ _ _ H.out) HS.out) ?_; rintro e w1 ⟨rfl, hb1⟩; have hx1 := X0.out.later hb1; have q1 := hx1.ld.2; have X1 := Lib.hid hx1; clear hx1 hb1)
  have hxg0 := X1.out
  go_region_held3 (fun w' => XG w w' #[.int .i64 k, .string n.text, .string n.value, .slice A1 m1 c1, .bool n.tru, .bool n.assign, .slice A2 m2 c2, .slice A3 m3 c3, .slice A4 m4 c4, .bool n.hasElse, .int .i64 n.num, .bool n.exact] ∧ (LdS (.pointer (some ⟨w.heap.size, 0, none⟩))).run Tryz.prog w' = .ok (.agg #[.int .i64 k, .string n.text, .string n.value, .slice A1 m1 c1, .bool n.tru, .bool n.assign, .slice A2 m2 c2, .slice A3 m3 c3, .slice A4 m4 c4, .bool n.hasElse, .int .i64 n.num, .bool n.exact]) w')
      (first | exact (XG.drew hxg).ld | exact hxg.ld | exact (XG.drew hxg0).ld | exact hxg0.ld)
      (first
        | (go_at_call 5; go_split_ands; refine Calls.mono (shaped_any (d + 1) [_, _, _, _, _, _, _, _, _, _, _, _] n (· < w.heap.size) _ (SN.mono (fun _ h _ => h) (Keeps.of_below (XG.below (by assumption))) _ _ _ H.out) HS.out) ?_
           rintro e w2 ⟨b2, rfl, hsh, hb2⟩
           have hxg := XG.later (by assumption) hb2
           rcases b2 with _ | _
           · rename_i K hK xl xr
             refine hK.out _ _ hxg.ld (fun hHeld => ?_)
             clear hK
             refine wpAnyH_take (i := 2) (v := (.bool true)) rfl (by kernel_rfl) (by kernel_rfl) (by kernel_rfl) (fun _ _ _ h => h) (Or.inl ⟨by rfl, fun w' hSw => by go_simp⟩) hHeld ?_
             simp only [List.getElem_toArray, List.getElem_cons_succ, List.getElem_cons_zero, Act.put, List.setIfInBounds_toArray, List.set_cons_zero, List.set_cons_succ]
             refine wpAnyH_take (i := 3) (v := (.bool true)) rfl (by kernel_rfl) (by kernel_rfl) (by kernel_rfl) (fun _ _ _ h => h) (Or.inl ⟨by rfl, fun w' hSw => by go_simp⟩) hHeld ?_
             simp only [List.getElem_toArray, List.getElem_cons_succ, List.getElem_cons_zero, Act.put, List.setIfInBounds_toArray, List.set_cons_zero, List.set_cons_succ]
             refine wpAnyH_take (i := 4) (v := undef) rfl (by kernel_rfl) (by kernel_rfl) (by kernel_rfl) (fun _ _ _ h => h) (Or.inr ⟨by rfl, rfl⟩) hHeld ?_
             simp only [List.getElem_toArray, List.getElem_cons_succ, List.getElem_cons_zero, Act.put, List.setIfInBounds_toArray, List.set_cons_zero, List.set_cons_succ]
             refine wpAnyH_take (i := 5) (v := undef) rfl (by kernel_rfl) (by kernel_rfl) (by kernel_rfl) (fun _ _ _ h => h) (Or.inr ⟨by rfl, rfl⟩) hHeld ?_
             simp only [List.getElem_toArray, List.getElem_cons_succ, List.getElem_cons_zero, Act.put, List.setIfInBounds_toArray, List.set_cons_zero, List.set_cons_succ]
             refine wpAnyH_take (i := 6) (v := undef) rfl (by kernel_rfl) (by kernel_rfl) (by kernel_rfl) (fun _ _ _ h => h) (Or.inr ⟨by rfl, rfl⟩) hHeld ?_
             simp only [List.getElem_toArray, List.getElem_cons_succ, List.getElem_cons_zero, Act.put, List.setIfInBounds_toArray, List.set_cons_zero, List.set_cons_succ]
             refine wpAnyH_take (i := 7) (v := (.bool true)) rfl (by kernel_rfl) (by kernel_rfl) (by kernel_rfl) (fun _ _ _ h => h) (Or.inl ⟨by rfl, fun w' hSw => by go_simp⟩) hHeld ?_
             simp only [List.getElem_toArray, List.getElem_cons_succ, List.getElem_cons_zero, Act.put, List.setIfInBounds_toArray, List.set_cons_zero, List.set_cons_succ]
             refine wpAnyH_take (i := 8) (v := (.bool true)) rfl (by kernel_rfl) (by kernel_rfl) (by kernel_rfl) (fun _ _ _ h => h) (Or.inl ⟨by rfl, fun w' hSw => by go_simp⟩) hHeld ?_
             simp only [List.getElem_toArray, List.getElem_cons_succ, List.getElem_cons_zero, Act.put, List.setIfInBounds_toArray, List.set_cons_zero, List.set_cons_succ]
             refine wpAnyH_take (i := 9) (v := undef) rfl (by kernel_rfl) (by kernel_rfl) (by kernel_rfl) (fun _ _ _ h => h) (Or.inr ⟨by rfl, rfl⟩) hHeld ?_
             simp only [List.getElem_toArray, List.getElem_cons_succ, List.getElem_cons_zero, Act.put, List.setIfInBounds_toArray, List.set_cons_zero, List.set_cons_succ]
             refine wpAnyH_take (i := 10) (v := undef) rfl (by kernel_rfl) (by kernel_rfl) (by kernel_rfl) (fun _ _ _ h => h) (Or.inr ⟨by rfl, rfl⟩) hHeld ?_
             simp only [List.getElem_toArray, List.getElem_cons_succ, List.getElem_cons_zero, Act.put, List.setIfInBounds_toArray, List.set_cons_zero, List.set_cons_succ]
             refine wpAnyH_take (i := 11) (v := undef) rfl (by kernel_rfl) (by kernel_rfl) (by kernel_rfl) (fun _ _ _ h => h) (Or.inr ⟨by rfl, rfl⟩) hHeld ?_
             simp only [List.getElem_toArray, List.getElem_cons_succ, List.getElem_cons_zero, Act.put, List.setIfInBounds_toArray, List.set_cons_zero, List.set_cons_succ]
             refine wpAnyH_take (i := 12) (v := undef) rfl (by kernel_rfl) (by kernel_rfl) (by kernel_rfl) (fun _ _ _ h => h) (Or.inr ⟨by rfl, rfl⟩) hHeld ?_
             simp only [List.getElem_toArray, List.getElem_cons_succ, List.getElem_cons_zero, Act.put, List.setIfInBounds_toArray, List.set_cons_zero, List.set_cons_succ]
             refine wpAnyH_take (i := 13) (v := undef) rfl (by kernel_rfl) (by kernel_rfl) (by kernel_rfl) (fun _ _ _ h => h) (Or.inr ⟨by rfl, rfl⟩) hHeld ?_
             simp only [List.getElem_toArray, List.getElem_cons_succ, List.getElem_cons_zero, Act.put, List.setIfInBounds_toArray, List.set_cons_zero, List.set_cons_succ]
             refine wpAnyH_take (i := 14) (v := undef) rfl (by kernel_rfl) (by kernel_rfl) (by kernel_rfl) (fun _ _ _ h => h) (Or.inr ⟨by rfl, rfl⟩) hHeld ?_
             simp only [List.getElem_toArray, List.getElem_cons_succ, List.getElem_cons_zero, Act.put, List.setIfInBounds_toArray, List.set_cons_zero, List.set_cons_succ]
             refine wpAnyH_take (i := 15) (v := undef) rfl (by kernel_rfl) (by kernel_rfl) (by kernel_rfl) (fun _ _ _ h => h) (Or.inr ⟨by rfl, rfl⟩) hHeld ?_
             simp only [List.getElem_toArray, List.getElem_cons_succ, List.getElem_cons_zero, Act.put, List.setIfInBounds_toArray, List.set_cons_zero, List.set_cons_succ]
             refine wpAnyH_take (i := 16) (v := undef) rfl (by kernel_rfl) (by kernel_rfl) (by kernel_rfl) (fun _ _ _ h => h) (Or.inr ⟨by rfl, rfl⟩) hHeld ?_
             simp only [List.getElem_toArray, List.getElem_cons_succ, List.getElem_cons_zero, Act.put, List.setIfInBounds_toArray, List.set_cons_zero, List.set_cons_succ]
             refine wpAnyH_take (i := 17) (v := undef) rfl (by kernel_rfl) (by kernel_rfl) (by kernel_rfl) (fun _ _ _ h => h) (Or.inr ⟨by rfl, rfl⟩) hHeld ?_
             simp only [List.getElem_toArray, List.getElem_cons_succ, List.getElem_cons_zero, Act.put, List.setIfInBounds_toArray, List.set_cons_zero, List.set_cons_succ]
             refine wpAnyH_take (i := 18) (v := undef) rfl (by kernel_rfl) (by kernel_rfl) (by kernel_rfl) (fun _ _ _ h => h) (Or.inr ⟨by rfl, rfl⟩) hHeld ?_
             simp only [List.getElem_toArray, List.getElem_cons_succ, List.getElem_cons_zero, Act.put, List.setIfInBounds_toArray, List.set_cons_zero, List.set_cons_succ]
             refine wpAnyH_take (i := 19) (v := undef) rfl (by kernel_rfl) (by kernel_rfl) (by kernel_rfl) (fun _ _ _ h => h) (Or.inr ⟨by rfl, rfl⟩) hHeld ?_
             simp only [List.getElem_toArray, List.getElem_cons_succ, List.getElem_cons_zero, Act.put, List.setIfInBounds_toArray, List.set_cons_zero, List.set_cons_succ]
             refine wpAnyH_take (i := 20) (v := (.bool true)) rfl (by kernel_rfl) (by kernel_rfl) (by kernel_rfl) (fun _ _ _ h => h) (Or.inl ⟨by rfl, fun w' hSw => by go_simp⟩) hHeld ?_
             simp only [List.getElem_toArray, List.getElem_cons_succ, List.getElem_cons_zero, Act.put, List.setIfInBounds_toArray, List.set_cons_zero, List.set_cons_succ]
             refine wpAnyH_take (i := 21) (v := (.bool true)) rfl (by kernel_rfl) (by kernel_rfl) (by kernel_rfl) (fun _ _ _ h => h) (Or.inl ⟨by rfl, fun w' hSw => by go_simp⟩) hHeld ?_
             simp only [List.getElem_toArray, List.getElem_cons_succ, List.getElem_cons_zero, Act.put, List.setIfInBounds_toArray, List.set_cons_zero, List.set_cons_succ]
             refine wpAnyH_done (by kernel_rfl) ?_ _
             refine NoPanic.normal ?_
             go_wp2
             go_ret
             exact ⟨rfl, XG.below hxg⟩
           have SH := Lib.hid (hsh rfl)
           clear hsh hb2)
        | (go_at_call 6; go_split_ands; refine Calls.mono (named_any (d + 1) [_, _, _, _, _, _, _, _, _, _, _, _] n (· < w.heap.size) _ (SN.mono (fun _ h _ => h) (Keeps.of_below (XG.below (by assumption))) _ _ _ H.out) HS.out) ?_
           rintro e w3 ⟨b3, rfl, hnm, hb3⟩
           have hxg := XG.later (by assumption) hb3
           rcases b3 with _ | _
           · rename_i K hK xl xr
             refine hK.out _ _ hxg.ld (fun hHeld => ?_)
             clear hK
             refine wpAnyH_take (i := 6) (v := (.bool true)) rfl (by kernel_rfl) (by kernel_rfl) (by kernel_rfl) (fun _ _ _ h => h) (Or.inl ⟨by rfl, fun w' hSw => by go_simp⟩) hHeld ?_
             simp only [List.getElem_toArray, List.getElem_cons_succ, List.getElem_cons_zero, Act.put, List.setIfInBounds_toArray, List.set_cons_zero, List.set_cons_succ]
             refine wpAnyH_take (i := 7) (v := (.bool true)) rfl (by kernel_rfl) (by kernel_rfl) (by kernel_rfl) (fun _ _ _ h => h) (Or.inl ⟨by rfl, fun w' hSw => by go_simp⟩) hHeld ?_
             simp only [List.getElem_toArray, List.getElem_cons_succ, List.getElem_cons_zero, Act.put, List.setIfInBounds_toArray, List.set_cons_zero, List.set_cons_succ]
             refine wpAnyH_take (i := 8) (v := (.bool true)) rfl (by kernel_rfl) (by kernel_rfl) (by kernel_rfl) (fun _ _ _ h => h) (Or.inl ⟨by rfl, fun w' hSw => by go_simp⟩) hHeld ?_
             simp only [List.getElem_toArray, List.getElem_cons_succ, List.getElem_cons_zero, Act.put, List.setIfInBounds_toArray, List.set_cons_zero, List.set_cons_succ]
             refine wpAnyH_take (i := 9) (v := undef) rfl (by kernel_rfl) (by kernel_rfl) (by kernel_rfl) (fun _ _ _ h => h) (Or.inr ⟨by rfl, rfl⟩) hHeld ?_
             simp only [List.getElem_toArray, List.getElem_cons_succ, List.getElem_cons_zero, Act.put, List.setIfInBounds_toArray, List.set_cons_zero, List.set_cons_succ]
             refine wpAnyH_take (i := 10) (v := undef) rfl (by kernel_rfl) (by kernel_rfl) (by kernel_rfl) (fun _ _ _ h => h) (Or.inr ⟨by rfl, rfl⟩) hHeld ?_
             simp only [List.getElem_toArray, List.getElem_cons_succ, List.getElem_cons_zero, Act.put, List.setIfInBounds_toArray, List.set_cons_zero, List.set_cons_succ]
             refine wpAnyH_take (i := 11) (v := undef) rfl (by kernel_rfl) (by kernel_rfl) (by kernel_rfl) (fun _ _ _ h => h) (Or.inr ⟨by rfl, rfl⟩) hHeld ?_
             simp only [List.getElem_toArray, List.getElem_cons_succ, List.getElem_cons_zero, Act.put, List.setIfInBounds_toArray, List.set_cons_zero, List.set_cons_succ]
             refine wpAnyH_take (i := 12) (v := undef) rfl (by kernel_rfl) (by kernel_rfl) (by kernel_rfl) (fun _ _ _ h => h) (Or.inr ⟨by rfl, rfl⟩) hHeld ?_
             simp only [List.getElem_toArray, List.getElem_cons_succ, List.getElem_cons_zero, Act.put, List.setIfInBounds_toArray, List.set_cons_zero, List.set_cons_succ]
             refine wpAnyH_take (i := 13) (v := undef) rfl (by kernel_rfl) (by kernel_rfl) (by kernel_rfl) (fun _ _ _ h => h) (Or.inr ⟨by rfl, rfl⟩) hHeld ?_
             simp only [List.getElem_toArray, List.getElem_cons_succ, List.getElem_cons_zero, Act.put, List.setIfInBounds_toArray, List.set_cons_zero, List.set_cons_succ]
             refine wpAnyH_take (i := 14) (v := undef) rfl (by kernel_rfl) (by kernel_rfl) (by kernel_rfl) (fun _ _ _ h => h) (Or.inr ⟨by rfl, rfl⟩) hHeld ?_
             simp only [List.getElem_toArray, List.getElem_cons_succ, List.getElem_cons_zero, Act.put, List.setIfInBounds_toArray, List.set_cons_zero, List.set_cons_succ]
             refine wpAnyH_take (i := 15) (v := undef) rfl (by kernel_rfl) (by kernel_rfl) (by kernel_rfl) (fun _ _ _ h => h) (Or.inr ⟨by rfl, rfl⟩) hHeld ?_
             simp only [List.getElem_toArray, List.getElem_cons_succ, List.getElem_cons_zero, Act.put, List.setIfInBounds_toArray, List.set_cons_zero, List.set_cons_succ]
             refine wpAnyH_take (i := 16) (v := undef) rfl (by kernel_rfl) (by kernel_rfl) (by kernel_rfl) (fun _ _ _ h => h) (Or.inr ⟨by rfl, rfl⟩) hHeld ?_
             simp only [List.getElem_toArray, List.getElem_cons_succ, List.getElem_cons_zero, Act.put, List.setIfInBounds_toArray, List.set_cons_zero, List.set_cons_succ]
             refine wpAnyH_take (i := 17) (v := undef) rfl (by kernel_rfl) (by kernel_rfl) (by kernel_rfl) (fun _ _ _ h => h) (Or.inr ⟨by rfl, rfl⟩) hHeld ?_
             simp only [List.getElem_toArray, List.getElem_cons_succ, List.getElem_cons_zero, Act.put, List.setIfInBounds_toArray, List.set_cons_zero, List.set_cons_succ]
             refine wpAnyH_take (i := 18) (v := undef) rfl (by kernel_rfl) (by kernel_rfl) (by kernel_rfl) (fun _ _ _ h => h) (Or.inr ⟨by rfl, rfl⟩) hHeld ?_
             simp only [List.getElem_toArray, List.getElem_cons_succ, List.getElem_cons_zero, Act.put, List.setIfInBounds_toArray, List.set_cons_zero, List.set_cons_succ]
             refine wpAnyH_take (i := 19) (v := undef) rfl (by kernel_rfl) (by kernel_rfl) (by kernel_rfl) (fun _ _ _ h => h) (Or.inr ⟨by rfl, rfl⟩) hHeld ?_
             simp only [List.getElem_toArray, List.getElem_cons_succ, List.getElem_cons_zero, Act.put, List.setIfInBounds_toArray, List.set_cons_zero, List.set_cons_succ]
             refine wpAnyH_take (i := 20) (v := (.bool true)) rfl (by kernel_rfl) (by kernel_rfl) (by kernel_rfl) (fun _ _ _ h => h) (Or.inl ⟨by rfl, fun w' hSw => by go_simp⟩) hHeld ?_
             simp only [List.getElem_toArray, List.getElem_cons_succ, List.getElem_cons_zero, Act.put, List.setIfInBounds_toArray, List.set_cons_zero, List.set_cons_succ]
             refine wpAnyH_take (i := 21) (v := (.bool true)) rfl (by kernel_rfl) (by kernel_rfl) (by kernel_rfl) (fun _ _ _ h => h) (Or.inl ⟨by rfl, fun w' hSw => by go_simp⟩) hHeld ?_
             simp only [List.getElem_toArray, List.getElem_cons_succ, List.getElem_cons_zero, Act.put, List.setIfInBounds_toArray, List.set_cons_zero, List.set_cons_succ]
             refine wpAnyH_done (by kernel_rfl) ?_ _
             refine NoPanic.normal ?_
             go_wp2
             go_ret
             exact ⟨rfl, XG.below hxg⟩
           have NM := Lib.hid (hnm rfl)
           clear hnm hb3)
        | (go_at_call 8; go_split_ands; refine Calls.mono (given_any w.heap.size (d + 1) [_, _, _, _, _, _, _, _, _, _, _, _] n _ ?_ HS.out ?_) ?_; exact SN.mono (fun _ h _ => h) (Keeps.of_below (XG.below (by assumption))) _ _ _ H.out; exact (XG.below (by assumption)).size; intro e w4 hgp; obtain ⟨cs', rfl, hin, hb⟩ := hgp; obtain ⟨a1, g1, a2, g2, a3, g3, a4, g4, rfl⟩ := hin.form; have hxg := XG.later (by assumption) hb; rw [KK.out] at hin ⊢; obtain ⟨B1, hB1⟩ : ∃ B1, B1 ≤ w4.heap.size ∧ w4.heap.size ≤ B1 := ⟨_, Nat.le_refl _, Nat.le_refl _⟩; replace hin := IN.mono (S' := (· < B1)) (fun b _ h => Nat.lt_of_lt_of_le h hB1.2) (Keeps.refl _ _) _ _ _ hin; replace hB1 := hB1.1; have HIN := Lib.hid hin; clear hin hb)
        | (go_at_call_of 7 a3; go_split_ands; refine Calls.mono (impl_print B1 d n _ _ a1 a2 a3 a4 _ _ _ _ g1 g2 g3 g4 HIN.out HS.out SH.out NM.out hB1) ?_; rintro e w5 ⟨rfl, hb5⟩; rw [show (⟨(pr (d + 1) n).toArray⟩ : ByteArray) = S from ES.out.symm]; have hxg := XG.later (by assumption) hb5; clear hb5)
        | (go_at_call 9; go_split_ands; refine Calls.mono (print_any w.heap.size (d + 1) [_, _, _, _, _, _, _, _, _, _, _, _] n _ ?_ HS.out SH.out ?_) ?_; exact SN.mono (fun _ h _ => h) (Keeps.of_below (XG.below (by assumption))) _ _ _ H.out; exact (XG.below (by assumption)).size; intro e w6 hsp; obtain ⟨rfl, hb6⟩ := hsp.det; rw [← ES.out]; have hxg := XG.later (by assumption) hb6; clear hsp hb6)
        | (go_at_call 7; go_split_ands; refine Calls.mono (dot_print w.heap.size _ (XG.below (by assumption)).size) ?_; rintro e w7 ⟨rfl, hb7⟩; have hxg := XG.later (by assumption) hb7; clear hb7))
  all_goals go_wp2
  all_goals go_ret
  all_goals exact ⟨rfl, XG.below (by assumption)⟩

end Go.Proofs.YtiogfkpclkkoaaaGreat
