/-
  spec.Print at a chain, a call of a template, the branches. Printed by py/spc.py.
-/
import Derived.Test.YtiogfkpclkkoaaaGreatSpC
import Derived.Lib.QuietBelow
import Derived.BigQuiet
set_option linter.unusedVariables false
set_option linter.unusedSimpArgs false
namespace Go.Proofs.YtiogfkpclkkoaaaGreat
open Go.RowKit

/-- A member of a row of nodes: its load as one equation, in every later world. -/
theorem SN.kid {w : World} {S : Nat → Prop} {d : Nat} {A : Option Addr} {cap : Nat} {l : List Nd} (h : Row w S 12 (SN w S d) (.slice A l.length cap) l) {k : Nat} (hk : k < l.length) :
    ∃ p b o A1 d1 A2 d2 A3 d3 A4 d4 l1 l2 l3 l4, l[k] = p ∧ A = some ⟨b, o, none⟩ ∧ b < w.heap.size ∧ SN w S d [.int .i64 p.kind, .string p.text, .string p.value, .slice A1 l1 d1, .bool p.tru, .bool p.assign, .slice A2 l2 d2, .slice A3 l3 d3, .slice A4 l4 d4, .bool p.hasElse, .int .i64 p.num, .bool p.exact] p ∧
      ∀ W, Below w.heap.size w W → (LdS (.pointer (some ⟨b, o + k * 12, none⟩))).run Tryz.prog W = .ok (.agg #[.int .i64 p.kind, .string p.text, .string p.value, .slice A1 l1 d1, .bool p.tru, .bool p.assign, .slice A2 l2 d2, .slice A3 l3 d3, .slice A4 l4 d4, .bool p.hasElse, .int .i64 p.num, .bool p.exact]) W := by
  obtain ⟨A', cap', hv, h⟩ := h
  injection hv with hA _ _
  subst hA
  obtain ⟨b, o, rfl, hb, hlt, h⟩ := h (by omega)
  obtain ⟨cs, hR, hc⟩ := h k hk
  obtain ⟨A1, d1, A2, d2, A3, d3, A4, d4, rfl⟩ := hR.form
  exact ⟨l[k], b, o, A1, d1, A2, d2, A3, d3, A4, d4, _, _, _, _, rfl, rfl, hlt, hR, fun W hW => run_ldS W b (o + k * 12) _ rfl fun j hj => (hW.cell (p := ⟨b, o + k * 12 + j, none⟩) hlt).trans (hc j hj)⟩

/-- The string that reads as l. -/
def strOf (l : List UInt8) : ByteArray := ⟨l.toArray⟩
theorem strOf_data (l : List UInt8) : (strOf l).data.toList = l := by simp [strOf]
theorem strOf_eq {s : ByteArray} {x : List UInt8} (h : s.data.toList = x) : s = strOf x := by
  subst h
  cases s
  simp [strOf]
theorem SpPost.det {w w' : World} {l : List UInt8} {e : Ending} (h : SpPost w l e w') : e = .returned (.string (strOf l)) ∧ Below w.heap.size w w' := by
  obtain ⟨s, rfl, hs, hb⟩ := h
  exact ⟨by rw [strOf_eq hs], hb⟩
theorem JoinPost.det {w w' : World} {l : List UInt8} {e : Ending} (h : JoinPost w l e w') : e = .returned (.string (strOf l)) ∧ Below w.heap.size w w' := by
  obtain ⟨s, rfl, hs, rfl⟩ := h
  exact ⟨by rw [strOf_eq hs], Below.refl _ _⟩
theorem below_gr {w : World} (o : Obj) (n : Nat) (os : Array Obj) : Below w.heap.size w (Sort.grow (redrawn (w.alloc o) n) os) := below_alloc (below_regrown (w.alloc o) n os)

attribute [local go_sem ↓] stS ldS
attribute [local go_sem] run_stS run_ldS_new

set_option maxHeartbeats 2000000 in
set_option maxRecDepth 100000 in
theorem sp_tpl0 (B d : Nat) (t v : ByteArray) (names : List ByteArray) (tru asg : Bool) (decl els : List Nd) (b3 : Bool) (num : Int) (ex : Bool) (w : World) (A1 A2 A3 A4 : Option Addr) (c1 c2 c3 c4 : Nat) (hs : Sm (d + 1) (.mk 16 t v names tru asg decl [] els b3 num ex)) (hp : Shp (d + 1) (.mk 16 t v names tru asg decl [] els b3 num ex)) (hB : B ≤ w.heap.size) :
    Calls Tryz.prog 9 #[.agg #[.int .i64 16, .string t, .string v, .slice A1 names.length c1, .bool tru, .bool asg, .slice A2 decl.length c2, .slice A3 0 c3, .slice A4 els.length c4, .bool b3, .int .i64 num, .bool ex]] w (SpPost w (pr (d + 1) (.mk 16 t v names tru asg decl [] els b3 num ex))) := by
  have hlen := pr_small hs hp
  have e0 : pr (d + 1) (.mk 16 t v names tru asg decl [] els b3 num ex) = lbr ++ [116, 101, 109, 112, 108, 97, 116, 101, 32, 34] ++ by' t ++ [34] ++ rbr := by simp [pr, Nd.kind, Nd.text, Nd.names, Nd.kids, Nd.decl, Nd.els, Nd.hasElse, Nd.assign, Nd.tru, firstD, secondD]
  rw [e0] at hlen ⊢
  simp only [List.length_append, List.length_cons, List.length_nil, by'_len, lbr, rbr] at hlen
  have hz : t.size ≤ 41943040 := by omega
  clear hs hp e0 hlen
  generalize names.length = l1
  generalize decl.length = l2
  generalize els.length = l4
  go_enter Tryz.func9, Tryz.ntmps9
  go_wp2
  go_ret
  exact ⟨_, rfl, by rw [append_data, append_data]; simp [lbr, rbr, by'], below_new _ _⟩

set_option maxHeartbeats 2000000 in
set_option maxRecDepth 100000 in
theorem sp_tpl1 (B d : Nat) (p : Nd) (ih : PrintAt B d) (t v : ByteArray) (names : List ByteArray) (tru asg : Bool) (decl els : List Nd) (b3 : Bool) (num : Int) (ex : Bool) (w : World) (A1 A2 A3 A4 : Option Addr) (c1 c2 c3 c4 : Nat) (h3 : Row w (· < B) 12 (SN w (· < B) d) (.slice A3 1 c3) [p]) (sp : Sm d p) (hpp : Shp d p) (hs : Sm (d + 1) (.mk 16 t v names tru asg decl [p] els b3 num ex)) (hp : Shp (d + 1) (.mk 16 t v names tru asg decl [p] els b3 num ex)) (hB : B ≤ w.heap.size) :
    Calls Tryz.prog 9 #[.agg #[.int .i64 16, .string t, .string v, .slice A1 names.length c1, .bool tru, .bool asg, .slice A2 decl.length c2, .slice A3 1 c3, .slice A4 els.length c4, .bool b3, .int .i64 num, .bool ex]] w (SpPost w (pr (d + 1) (.mk 16 t v names tru asg decl [p] els b3 num ex))) := by
  have hlen := pr_small hs hp
  have e0 : pr (d + 1) (.mk 16 t v names tru asg decl [p] els b3 num ex) = lbr ++ [116, 101, 109, 112, 108, 97, 116, 101, 32, 34] ++ by' t ++ [34] ++ 32 :: pr d p ++ rbr := by simp [pr, Nd.kind, Nd.text, Nd.names, Nd.kids, Nd.decl, Nd.els, Nd.hasElse, Nd.assign, Nd.tru, firstD, secondD]
  rw [e0] at hlen ⊢
  simp only [List.length_append, List.length_cons, List.length_nil, by'_len, lbr, rbr] at hlen
  have hz : t.size ≤ 41943040 := by omega
  have hz1 := size_data (strOf_data (pr d p))
  obtain ⟨p0, bx, ox, A1x, d1x, A2x, d2x, A3x, d3x, A4x, d4x, l1x, l2x, l3x, l4x, hpk, hAx, hltx, hsnx, hldx⟩ := SN.kid (l := [p]) h3 (k := 0) (by simp)
  obtain rfl : p = p0 := hpk
  subst hAx
  simp only [Nat.zero_mul, Nat.add_zero] at hldx
  generalize names.length = l1 at *
  generalize decl.length = l2 at *
  generalize els.length = l4 at *
  have cP : ∀ n os, Calls Tryz.prog 9 #[.agg #[.int .i64 p.kind, .string p.text, .string p.value, .slice A1x l1x d1x, .bool p.tru, .bool p.assign, .slice A2x l2x d2x, .slice A3x l3x d3x, .slice A4x l4x d4x, .bool p.hasElse, .int .i64 p.num, .bool p.exact]] (Sort.grow (redrawn (w.alloc (.cells #[.int .i64 16, .string t, .string v, .slice A1 l1 c1, .bool tru, .bool asg, .slice A2 l2 c2, .slice (some ⟨bx, ox, none⟩) 1 c3, .slice A4 l4 c4, .bool b3, .int .i64 num, .bool ex] 25)) n) os) fun e w'' => e = .returned (.string (strOf (pr d p))) ∧ ∃ q : Regrown, w'' = Sort.grow (redrawn (w.alloc (.cells #[.int .i64 16, .string t, .string v, .slice A1 l1 c1, .bool tru, .bool asg, .slice A2 l2 c2, .slice (some ⟨bx, ox, none⟩) 1 c3, .slice A4 l4 c4, .bool b3, .int .i64 num, .bool ex] 25)) q.d) q.os := fun n os => Calls.regrown_of (Calls.mono (ih [_, _, _, _, _, _, _, _, _, _, _, _] p _ (SN.mono (fun _ h _ => h) (Keeps.of_below (below_gr _ n os)) _ _ _ hsnx) sp hpp (Nat.le_trans hB (below_gr _ n os).size)) fun _ _ h => h.det)
  have ldx : ∀ n os, (LdS (.pointer (some ⟨bx, ox, none⟩))).run Tryz.prog (Sort.grow (redrawn (w.alloc (.cells #[.int .i64 16, .string t, .string v, .slice A1 l1 c1, .bool tru, .bool asg, .slice A2 l2 c2, .slice (some ⟨bx, ox, none⟩) 1 c3, .slice A4 l4 c4, .bool b3, .int .i64 num, .bool ex] 25)) n) os) = .ok (.agg #[.int .i64 p.kind, .string p.text, .string p.value, .slice A1x l1x d1x, .bool p.tru, .bool p.assign, .slice A2x l2x d2x, .slice A3x l3x d3x, .slice A4x l4x d4x, .bool p.hasElse, .int .i64 p.num, .bool p.exact]) (Sort.grow (redrawn (w.alloc (.cells #[.int .i64 16, .string t, .string v, .slice A1 l1 c1, .bool tru, .bool asg, .slice A2 l2 c2, .slice (some ⟨bx, ox, none⟩) 1 c3, .slice A4 l4 c4, .bool b3, .int .i64 num, .bool ex] 25)) n) os) := fun n os => hldx _ (below_gr _ n os)
  have k7 : ∀ n os, (Sort.grow (redrawn (w.alloc (.cells #[.int .i64 16, .string t, .string v, .slice A1 l1 c1, .bool tru, .bool asg, .slice A2 l2 c2, .slice (some ⟨bx, ox, none⟩) 1 c3, .slice A4 l4 c4, .bool b3, .int .i64 num, .bool ex] 25)) n) os).cell? ⟨w.heap.size, 7, none⟩ = some (.slice (some ⟨bx, ox, none⟩) 1 c3) := fun n os => cell_regrown (World.cell?_alloc_at _ _ _ _ rfl) n os
  have k1 : ∀ n os, (Sort.grow (redrawn (w.alloc (.cells #[.int .i64 16, .string t, .string v, .slice A1 l1 c1, .bool tru, .bool asg, .slice A2 l2 c2, .slice (some ⟨bx, ox, none⟩) 1 c3, .slice A4 l4 c4, .bool b3, .int .i64 num, .bool ex] 25)) n) os).cell? ⟨w.heap.size, 1, none⟩ = some (.string t) := fun n os => cell_regrown (World.cell?_alloc_at _ _ _ _ rfl) n os
  have hd1 := strOf_data (pr d p)
  generalize strOf (pr d p) = s1 at *
  have HD1 := Lib.hid hd1
  have n1 : ¬ 9223372036854775807 < 12 + t.size := by omega
  have n2 : ¬ 9223372036854775807 < 12 + t.size + 2 := by omega
  have n3 : ¬ 9223372036854775807 < 12 + t.size + 2 + s1.size := by omega
  have n4 : ¬ 9223372036854775807 < 12 + t.size + 2 + s1.size + 2 := by omega
  clear hs hp e0 hlen ih sp hpp h3 hsnx hldx hltx hd1 hz1 hz
  go_enter Tryz.func9, Tryz.ntmps9
  go_wp2_with fail
  refine wp_region_quiet_below (by kernel_rfl) (by kernel_rfl) ?_
  repeat (quiet_step (first | (go_at_call 9; exact cP _ _)))
  refine wpQuiet_nil ?_
  intro _ hw'
  obtain ⟨⟨dq, osq⟩, hw''⟩ := hw'
  subst hw''
  go_wp2
  go_ret
  exact ⟨_, rfl, by rw [append_data, append_data, append_data, append_data, HD1.out]; simp [lbr, rbr, by'], below_gr _ dq osq⟩

set_option maxHeartbeats 2000000 in
set_option maxRecDepth 100000 in
theorem sp_chain (B d : Nat) (p : Nd) (ih : PrintAt B d) (t v : ByteArray) (names : List ByteArray) (tru asg : Bool) (decl els : List Nd) (b3 : Bool) (num : Int) (ex : Bool) (w : World) (A1 A2 A3 A4 : Option Addr) (c1 c2 c3 c4 : Nat) (h1 : Strs w (· < B) (.slice A1 names.length c1) names) (hn : names.length ≤ 1048576) (hpos : 0 < names.length) (h3 : Row w (· < B) 12 (SN w (· < B) d) (.slice A3 1 c3) [p]) (sp : Sm d p) (hpp : Shp d p) (hs : Sm (d + 1) (.mk 4 t v names tru asg decl [p] els b3 num ex)) (hp : Shp (d + 1) (.mk 4 t v names tru asg decl [p] els b3 num ex)) (hB : B ≤ w.heap.size) :
    Calls Tryz.prog 9 #[.agg #[.int .i64 4, .string t, .string v, .slice A1 names.length c1, .bool tru, .bool asg, .slice A2 decl.length c2, .slice A3 1 c3, .slice A4 els.length c4, .bool b3, .int .i64 num, .bool ex]] w (SpPost w (pr (d + 1) (.mk 4 t v names tru asg decl [p] els b3 num ex))) := by
  have hlen := pr_small hs hp
  have e0 : pr (d + 1) (.mk 4 t v names tru asg decl [p] els b3 num ex) = argD (pr d) p ++ 46 :: dotted names := by simp [pr, Nd.kind, Nd.text, Nd.names, Nd.kids, Nd.decl, Nd.els, Nd.hasElse, Nd.assign, Nd.tru, firstD, secondD, dots_dotted hpos]
  rw [e0] at hlen ⊢
  simp only [List.length_append, List.length_cons, List.length_nil, by'_len, lbr, rbr] at hlen
  have hz1 := size_data (strOf_data (argD (pr d) p))
  have hz2 := size_data (strOf_data (dotted names))
  obtain ⟨p0, bx, ox, A1x, d1x, A2x, d2x, A3x, d3x, A4x, d4x, l1x, l2x, l3x, l4x, hpk, hAx, hltx, hsnx, hldx⟩ := SN.kid (l := [p]) h3 (k := 0) (by simp)
  obtain rfl : p = p0 := hpk
  subst hAx
  simp only [Nat.zero_mul, Nat.add_zero] at hldx
  generalize decl.length = l2 at *
  generalize els.length = l4 at *
  have cP : ∀ n os, Calls Tryz.prog 20 #[.agg #[.int .i64 p.kind, .string p.text, .string p.value, .slice A1x l1x d1x, .bool p.tru, .bool p.assign, .slice A2x l2x d2x, .slice A3x l3x d3x, .slice A4x l4x d4x, .bool p.hasElse, .int .i64 p.num, .bool p.exact]] (Sort.grow (redrawn (w.alloc (.cells #[.int .i64 4, .string t, .string v, .slice A1 names.length c1, .bool tru, .bool asg, .slice A2 l2 c2, .slice (some ⟨bx, ox, none⟩) 1 c3, .slice A4 l4 c4, .bool b3, .int .i64 num, .bool ex] 25)) n) os) fun e w'' => e = .returned (.string (strOf (argD (pr d) p))) ∧ ∃ q : Regrown, w'' = Sort.grow (redrawn (w.alloc (.cells #[.int .i64 4, .string t, .string v, .slice A1 names.length c1, .bool tru, .bool asg, .slice A2 l2 c2, .slice (some ⟨bx, ox, none⟩) 1 c3, .slice A4 l4 c4, .bool b3, .int .i64 num, .bool ex] 25)) q.d) q.os := fun n os => Calls.regrown_of (Calls.mono (argument_any B d ih [_, _, _, _, _, _, _, _, _, _, _, _] p _ (SN.mono (fun _ h _ => h) (Keeps.of_below (below_gr _ n os)) _ _ _ hsnx) sp hpp (Nat.le_trans hB (below_gr _ n os).size)) fun _ _ h => h.det)
  have cJ : ∀ n os, Calls Tryz.prog 19 #[.slice A1 names.length c1, .string ⟨#[46]⟩] (Sort.grow (redrawn (w.alloc (.cells #[.int .i64 4, .string t, .string v, .slice A1 names.length c1, .bool tru, .bool asg, .slice A2 l2 c2, .slice (some ⟨bx, ox, none⟩) 1 c3, .slice A4 l4 c4, .bool b3, .int .i64 num, .bool ex] 25)) n) os) fun e w'' => e = .returned (.string (strOf (dotted names))) ∧ ∃ q : Regrown, w'' = Sort.grow (redrawn (w.alloc (.cells #[.int .i64 4, .string t, .string v, .slice A1 names.length c1, .bool tru, .bool asg, .slice A2 l2 c2, .slice (some ⟨bx, ox, none⟩) 1 c3, .slice A4 l4 c4, .bool b3, .int .i64 num, .bool ex] 25)) q.d) q.os := fun n os => Calls.regrown_of (Calls.mono (joined_any (· < B) names A1 c1 ⟨#[46]⟩ [46] _ (h1.mono (fun _ h _ => h) (Keeps.of_below (below_gr _ n os))) rfl (by decide) hn (by show (dotted names).length ≤ _; omega)) fun _ _ h => h.det)
  have ldx : ∀ n os, (LdS (.pointer (some ⟨bx, ox, none⟩))).run Tryz.prog (Sort.grow (redrawn (w.alloc (.cells #[.int .i64 4, .string t, .string v, .slice A1 names.length c1, .bool tru, .bool asg, .slice A2 l2 c2, .slice (some ⟨bx, ox, none⟩) 1 c3, .slice A4 l4 c4, .bool b3, .int .i64 num, .bool ex] 25)) n) os) = .ok (.agg #[.int .i64 p.kind, .string p.text, .string p.value, .slice A1x l1x d1x, .bool p.tru, .bool p.assign, .slice A2x l2x d2x, .slice A3x l3x d3x, .slice A4x l4x d4x, .bool p.hasElse, .int .i64 p.num, .bool p.exact]) (Sort.grow (redrawn (w.alloc (.cells #[.int .i64 4, .string t, .string v, .slice A1 names.length c1, .bool tru, .bool asg, .slice A2 l2 c2, .slice (some ⟨bx, ox, none⟩) 1 c3, .slice A4 l4 c4, .bool b3, .int .i64 num, .bool ex] 25)) n) os) := fun n os => hldx _ (below_gr _ n os)
  have k7 : ∀ n os, (Sort.grow (redrawn (w.alloc (.cells #[.int .i64 4, .string t, .string v, .slice A1 names.length c1, .bool tru, .bool asg, .slice A2 l2 c2, .slice (some ⟨bx, ox, none⟩) 1 c3, .slice A4 l4 c4, .bool b3, .int .i64 num, .bool ex] 25)) n) os).cell? ⟨w.heap.size, 7, none⟩ = some (.slice (some ⟨bx, ox, none⟩) 1 c3) := fun n os => cell_regrown (World.cell?_alloc_at _ _ _ _ rfl) n os
  have k3 : ∀ n os, (Sort.grow (redrawn (w.alloc (.cells #[.int .i64 4, .string t, .string v, .slice A1 names.length c1, .bool tru, .bool asg, .slice A2 l2 c2, .slice (some ⟨bx, ox, none⟩) 1 c3, .slice A4 l4 c4, .bool b3, .int .i64 num, .bool ex] 25)) n) os).cell? ⟨w.heap.size, 3, none⟩ = some (.slice A1 names.length c1) := fun n os => cell_regrown (World.cell?_alloc_at _ _ _ _ rfl) n os
  have hd1 := strOf_data (argD (pr d) p)
  have hd2 := strOf_data (dotted names)
  generalize strOf (argD (pr d) p) = s1 at *
  generalize strOf (dotted names) = s2 at *
  have HD1 := Lib.hid hd1
  have HD2 := Lib.hid hd2
  have n1 : ¬ 9223372036854775807 < s1.size + 1 := by omega
  have n2 : ¬ 9223372036854775807 < s1.size + 1 + s2.size := by omega
  clear hs hp e0 hlen ih sp hpp h3 hsnx hldx hltx hd1 hd2 hz1 hz2 h1 hpos
  generalize names.length = l1 at *
  go_enter Tryz.func9, Tryz.ntmps9
  go_wp2_with fail
  refine wp_region_quiet_below (by kernel_rfl) (by kernel_rfl) ?_
  repeat (quiet_step (first | (go_at_call 20; exact cP _ _) | (go_at_call 19; exact cJ _ _)))
  refine wpQuiet_nil ?_
  intro _ hw'
  obtain ⟨⟨dq, osq⟩, hw''⟩ := hw'
  subst hw''
  go_wp2
  go_ret
  exact ⟨_, rfl, by rw [append_data, append_data, HD1.out, HD2.out]; simp, below_gr _ dq osq⟩

set_option maxHeartbeats 2000000 in
set_option maxRecDepth 100000 in
theorem sp_if0 (B d : Nat) (p q : Nd) (ih : PrintAt B d) (t v : ByteArray) (names : List ByteArray) (tru asg : Bool) (decl : List Nd) (num : Int) (ex : Bool) (w : World) (A1 A2 A3 A4 : Option Addr) (c1 c2 c3 c4 : Nat) (h3 : Row w (· < B) 12 (SN w (· < B) d) (.slice A3 2 c3) [p, q]) (sp : Sm d p) (hpp : Shp d p) (sq : Sm d q) (hpq : Shp d q) (hs : Sm (d + 1) (.mk 9 t v names tru asg decl [p, q] [] false num ex)) (hp : Shp (d + 1) (.mk 9 t v names tru asg decl [p, q] [] false num ex)) (hB : B ≤ w.heap.size) :
    Calls Tryz.prog 9 #[.agg #[.int .i64 9, .string t, .string v, .slice A1 names.length c1, .bool tru, .bool asg, .slice A2 decl.length c2, .slice A3 2 c3, .slice A4 0 c4, .bool false, .int .i64 num, .bool ex]] w (SpPost w (pr (d + 1) (.mk 9 t v names tru asg decl [p, q] [] false num ex))) := by
  have hlen := pr_small hs hp
  have e0 : pr (d + 1) (.mk 9 t v names tru asg decl [p, q] [] false num ex) = lbr ++ wordD 9 ++ [32] ++ pr d p ++ rbr ++ pr d q ++ lbr ++ [101, 110, 100] ++ rbr := by simp [pr, Nd.kind, Nd.text, Nd.names, Nd.kids, Nd.decl, Nd.els, Nd.hasElse, Nd.assign, Nd.tru, firstD, secondD]
  rw [e0] at hlen ⊢
  simp only [List.length_append, List.length_cons, List.length_nil, by'_len, lbr, rbr] at hlen
  have hz0 := size_data (strOf_data (wordD 9))
  have hz1 := size_data (strOf_data (pr d p))
  have hz2 := size_data (strOf_data (pr d q))
  obtain ⟨p0, bx, ox, A1x, d1x, A2x, d2x, A3x, d3x, A4x, d4x, l1x, l2x, l3x, l4x, hpk, hAx, hltx, hsnx, hldx⟩ := SN.kid (l := [p, q]) h3 (k := 0) (by simp)
  obtain rfl : p = p0 := hpk
  obtain ⟨p0, bY, oY, A1y, d1y, A2y, d2y, A3y, d3y, A4y, d4y, l1y, l2y, l3y, l4y, hpk, hAy, hlty, hsny, hldy⟩ := SN.kid (l := [p, q]) h3 (k := 1) (by simp)
  obtain rfl : q = p0 := hpk
  subst hAx
  obtain ⟨rfl, rfl⟩ : bx = bY ∧ ox = oY := by injection hAy with h; injection h with h1 h2; exact ⟨h1, h2⟩
  simp only [Nat.zero_mul, Nat.add_zero] at hldx
  simp only [Nat.one_mul] at hldy
  generalize names.length = l1 at *
  generalize decl.length = l2 at *
  have cW : ∀ n os, Calls Tryz.prog 22 #[.int .i64 9] (Sort.grow (redrawn (w.alloc (.cells #[.int .i64 9, .string t, .string v, .slice A1 l1 c1, .bool tru, .bool asg, .slice A2 l2 c2, .slice (some ⟨bx, ox, none⟩) 2 c3, .slice A4 0 c4, .bool false, .int .i64 num, .bool ex] 25)) n) os) fun e w'' => e = .returned (.string (strOf (wordD 9))) ∧ ∃ q : Regrown, w'' = Sort.grow (redrawn (w.alloc (.cells #[.int .i64 9, .string t, .string v, .slice A1 l1 c1, .bool tru, .bool asg, .slice A2 l2 c2, .slice (some ⟨bx, ox, none⟩) 2 c3, .slice A4 0 c4, .bool false, .int .i64 num, .bool ex] 25)) q.d) q.os := fun n os => Calls.regrown_of (Calls.mono (word_any 9 (by decide) _) fun _ _ h => h.det)
  have cP : ∀ n os, Calls Tryz.prog 9 #[.agg #[.int .i64 p.kind, .string p.text, .string p.value, .slice A1x l1x d1x, .bool p.tru, .bool p.assign, .slice A2x l2x d2x, .slice A3x l3x d3x, .slice A4x l4x d4x, .bool p.hasElse, .int .i64 p.num, .bool p.exact]] (Sort.grow (redrawn (w.alloc (.cells #[.int .i64 9, .string t, .string v, .slice A1 l1 c1, .bool tru, .bool asg, .slice A2 l2 c2, .slice (some ⟨bx, ox, none⟩) 2 c3, .slice A4 0 c4, .bool false, .int .i64 num, .bool ex] 25)) n) os) fun e w'' => e = .returned (.string (strOf (pr d p))) ∧ ∃ q : Regrown, w'' = Sort.grow (redrawn (w.alloc (.cells #[.int .i64 9, .string t, .string v, .slice A1 l1 c1, .bool tru, .bool asg, .slice A2 l2 c2, .slice (some ⟨bx, ox, none⟩) 2 c3, .slice A4 0 c4, .bool false, .int .i64 num, .bool ex] 25)) q.d) q.os := fun n os => Calls.regrown_of (Calls.mono (ih [_, _, _, _, _, _, _, _, _, _, _, _] p _ (SN.mono (fun _ h _ => h) (Keeps.of_below (below_gr _ n os)) _ _ _ hsnx) sp hpp (Nat.le_trans hB (below_gr _ n os).size)) fun _ _ h => h.det)
  have cQ : ∀ n os, Calls Tryz.prog 9 #[.agg #[.int .i64 q.kind, .string q.text, .string q.value, .slice A1y l1y d1y, .bool q.tru, .bool q.assign, .slice A2y l2y d2y, .slice A3y l3y d3y, .slice A4y l4y d4y, .bool q.hasElse, .int .i64 q.num, .bool q.exact]] (Sort.grow (redrawn (w.alloc (.cells #[.int .i64 9, .string t, .string v, .slice A1 l1 c1, .bool tru, .bool asg, .slice A2 l2 c2, .slice (some ⟨bx, ox, none⟩) 2 c3, .slice A4 0 c4, .bool false, .int .i64 num, .bool ex] 25)) n) os) fun e w'' => e = .returned (.string (strOf (pr d q))) ∧ ∃ q : Regrown, w'' = Sort.grow (redrawn (w.alloc (.cells #[.int .i64 9, .string t, .string v, .slice A1 l1 c1, .bool tru, .bool asg, .slice A2 l2 c2, .slice (some ⟨bx, ox, none⟩) 2 c3, .slice A4 0 c4, .bool false, .int .i64 num, .bool ex] 25)) q.d) q.os := fun n os => Calls.regrown_of (Calls.mono (ih [_, _, _, _, _, _, _, _, _, _, _, _] q _ (SN.mono (fun _ h _ => h) (Keeps.of_below (below_gr _ n os)) _ _ _ hsny) sq hpq (Nat.le_trans hB (below_gr _ n os).size)) fun _ _ h => h.det)
  have ldx : ∀ n os, (LdS (.pointer (some ⟨bx, ox, none⟩))).run Tryz.prog (Sort.grow (redrawn (w.alloc (.cells #[.int .i64 9, .string t, .string v, .slice A1 l1 c1, .bool tru, .bool asg, .slice A2 l2 c2, .slice (some ⟨bx, ox, none⟩) 2 c3, .slice A4 0 c4, .bool false, .int .i64 num, .bool ex] 25)) n) os) = .ok (.agg #[.int .i64 p.kind, .string p.text, .string p.value, .slice A1x l1x d1x, .bool p.tru, .bool p.assign, .slice A2x l2x d2x, .slice A3x l3x d3x, .slice A4x l4x d4x, .bool p.hasElse, .int .i64 p.num, .bool p.exact]) (Sort.grow (redrawn (w.alloc (.cells #[.int .i64 9, .string t, .string v, .slice A1 l1 c1, .bool tru, .bool asg, .slice A2 l2 c2, .slice (some ⟨bx, ox, none⟩) 2 c3, .slice A4 0 c4, .bool false, .int .i64 num, .bool ex] 25)) n) os) := fun n os => hldx _ (below_gr _ n os)
  have ldy : ∀ n os, (LdS (.pointer (some ⟨bx, ox + 12, none⟩))).run Tryz.prog (Sort.grow (redrawn (w.alloc (.cells #[.int .i64 9, .string t, .string v, .slice A1 l1 c1, .bool tru, .bool asg, .slice A2 l2 c2, .slice (some ⟨bx, ox, none⟩) 2 c3, .slice A4 0 c4, .bool false, .int .i64 num, .bool ex] 25)) n) os) = .ok (.agg #[.int .i64 q.kind, .string q.text, .string q.value, .slice A1y l1y d1y, .bool q.tru, .bool q.assign, .slice A2y l2y d2y, .slice A3y l3y d3y, .slice A4y l4y d4y, .bool q.hasElse, .int .i64 q.num, .bool q.exact]) (Sort.grow (redrawn (w.alloc (.cells #[.int .i64 9, .string t, .string v, .slice A1 l1 c1, .bool tru, .bool asg, .slice A2 l2 c2, .slice (some ⟨bx, ox, none⟩) 2 c3, .slice A4 0 c4, .bool false, .int .i64 num, .bool ex] 25)) n) os) := fun n os => hldy _ (below_gr _ n os)
  have k0 : ∀ n os, (Sort.grow (redrawn (w.alloc (.cells #[.int .i64 9, .string t, .string v, .slice A1 l1 c1, .bool tru, .bool asg, .slice A2 l2 c2, .slice (some ⟨bx, ox, none⟩) 2 c3, .slice A4 0 c4, .bool false, .int .i64 num, .bool ex] 25)) n) os).cell? ⟨w.heap.size, 0, none⟩ = some (.int .i64 9) := fun n os => cell_regrown (World.cell?_alloc_at _ _ _ _ rfl) n os
  have k7 : ∀ n os, (Sort.grow (redrawn (w.alloc (.cells #[.int .i64 9, .string t, .string v, .slice A1 l1 c1, .bool tru, .bool asg, .slice A2 l2 c2, .slice (some ⟨bx, ox, none⟩) 2 c3, .slice A4 0 c4, .bool false, .int .i64 num, .bool ex] 25)) n) os).cell? ⟨w.heap.size, 7, none⟩ = some (.slice (some ⟨bx, ox, none⟩) 2 c3) := fun n os => cell_regrown (World.cell?_alloc_at _ _ _ _ rfl) n os
  have k9 : ∀ n os, (Sort.grow (redrawn (w.alloc (.cells #[.int .i64 9, .string t, .string v, .slice A1 l1 c1, .bool tru, .bool asg, .slice A2 l2 c2, .slice (some ⟨bx, ox, none⟩) 2 c3, .slice A4 0 c4, .bool false, .int .i64 num, .bool ex] 25)) n) os).cell? ⟨w.heap.size, 9, none⟩ = some (.bool false) := fun n os => cell_regrown (World.cell?_alloc_at _ _ _ _ rfl) n os
  have hd0 := strOf_data (wordD 9)
  have hd1 := strOf_data (pr d p)
  have hd2 := strOf_data (pr d q)
  generalize hgw : strOf (wordD 9) = s0 at *
  generalize hgp : strOf (pr d p) = s1 at *
  generalize hgq : strOf (pr d q) = s2 at *
  have HD0 := Lib.hid hd0
  have HD1 := Lib.hid hd1
  have HD2 := Lib.hid hd2
  have hz2' : 2 + s0.size + 1 + s1.size + 2 + s2.size ≤ 41943040 := by omega
  have n1 : ¬ 9223372036854775807 < 2 + s0.size := by omega
  have n2 : ¬ 9223372036854775807 < 2 + s0.size + 1 := by omega
  have n3 : ¬ 9223372036854775807 < 2 + s0.size + 1 + s1.size := by omega
  have n4 : ¬ 9223372036854775807 < 2 + s0.size + 1 + s1.size + 2 := by omega
  have n5 : ¬ 9223372036854775807 < 2 + s0.size + 1 + s1.size + 2 + s2.size := by omega
  clear hs hp e0 hlen ih sp hpp sq hpq h3 hsnx hldx hltx hsny hldy hlty hAy hd0 hd1 hd2 hz0 hz1 hz2 hgw hgp hgq
  go_enter Tryz.func9, Tryz.ntmps9
  go_wp2_with fail
  refine wp_region_quiet_below (by kernel_rfl) (by kernel_rfl) ?_
  repeat (quiet_step (first | (go_at_call 22; exact cW _ _) | (go_at_call_of 9 A1x; exact cP _ _) | (go_at_call_of 9 A1y; exact cQ _ _)))
  refine wpQuiet_nil ?_
  intro _ hw'
  obtain ⟨⟨dq, osq⟩, hw''⟩ := hw'
  subst hw''
  clear n1 n2 n3 n4 n5 cW cP cQ
  go_wp2
  go_ret
  exact ⟨_, rfl, by simp only [append_data, HD0.out, HD1.out, HD2.out]; simp [lbr, rbr, wordD], below_gr _ dq osq⟩

set_option maxHeartbeats 2000000 in
set_option maxRecDepth 100000 in
theorem sp_if1 (B d : Nat) (p q z : Nd) (ih : PrintAt B d) (t v : ByteArray) (names : List ByteArray) (tru asg : Bool) (decl : List Nd) (num : Int) (ex : Bool) (w : World) (A1 A2 A3 A4 : Option Addr) (c1 c2 c3 c4 : Nat) (h3 : Row w (· < B) 12 (SN w (· < B) d) (.slice A3 2 c3) [p, q]) (sp : Sm d p) (hpp : Shp d p) (sq : Sm d q) (hpq : Shp d q) (h4 : Row w (· < B) 12 (SN w (· < B) d) (.slice A4 1 c4) [z]) (sz : Sm d z) (hpz : Shp d z) (hs : Sm (d + 1) (.mk 9 t v names tru asg decl [p, q] [z] true num ex)) (hp : Shp (d + 1) (.mk 9 t v names tru asg decl [p, q] [z] true num ex)) (hB : B ≤ w.heap.size) :
    Calls Tryz.prog 9 #[.agg #[.int .i64 9, .string t, .string v, .slice A1 names.length c1, .bool tru, .bool asg, .slice A2 decl.length c2, .slice A3 2 c3, .slice A4 1 c4, .bool true, .int .i64 num, .bool ex]] w (SpPost w (pr (d + 1) (.mk 9 t v names tru asg decl [p, q] [z] true num ex))) := by
  have hlen := pr_small hs hp
  have e0 : pr (d + 1) (.mk 9 t v names tru asg decl [p, q] [z] true num ex) = lbr ++ wordD 9 ++ [32] ++ pr d p ++ rbr ++ pr d q ++ (lbr ++ [101, 108, 115, 101] ++ rbr ++ pr d z) ++ lbr ++ [101, 110, 100] ++ rbr := by simp [pr, Nd.kind, Nd.text, Nd.names, Nd.kids, Nd.decl, Nd.els, Nd.hasElse, Nd.assign, Nd.tru, firstD, secondD]
  rw [e0] at hlen ⊢
  simp only [List.length_append, List.length_cons, List.length_nil, by'_len, lbr, rbr] at hlen
  have hz0 := size_data (strOf_data (wordD 9))
  have hz1 := size_data (strOf_data (pr d p))
  have hz2 := size_data (strOf_data (pr d q))
  have hz3 := size_data (strOf_data (pr d z))
  obtain ⟨p0, bx, ox, A1x, d1x, A2x, d2x, A3x, d3x, A4x, d4x, l1x, l2x, l3x, l4x, hpk, hAx, hltx, hsnx, hldx⟩ := SN.kid (l := [p, q]) h3 (k := 0) (by simp)
  obtain rfl : p = p0 := hpk
  obtain ⟨p0, bY, oY, A1y, d1y, A2y, d2y, A3y, d3y, A4y, d4y, l1y, l2y, l3y, l4y, hpk, hAy, hlty, hsny, hldy⟩ := SN.kid (l := [p, q]) h3 (k := 1) (by simp)
  obtain rfl : q = p0 := hpk
  obtain ⟨p0, bv, ov, A1v, d1v, A2v, d2v, A3v, d3v, A4v, d4v, l1v, l2v, l3v, l4v, hpk, hAv, hltv, hsnv, hldv⟩ := SN.kid (l := [z]) h4 (k := 0) (by simp)
  obtain rfl : z = p0 := hpk
  subst hAx
  obtain ⟨rfl, rfl⟩ : bx = bY ∧ ox = oY := by injection hAy with h; injection h with h1 h2; exact ⟨h1, h2⟩
  subst hAv
  simp only [Nat.zero_mul, Nat.add_zero] at hldv
  simp only [Nat.zero_mul, Nat.add_zero] at hldx
  simp only [Nat.one_mul] at hldy
  generalize names.length = l1 at *
  generalize decl.length = l2 at *
  have cW : ∀ n os, Calls Tryz.prog 22 #[.int .i64 9] (Sort.grow (redrawn (w.alloc (.cells #[.int .i64 9, .string t, .string v, .slice A1 l1 c1, .bool tru, .bool asg, .slice A2 l2 c2, .slice (some ⟨bx, ox, none⟩) 2 c3, .slice (some ⟨bv, ov, none⟩) 1 c4, .bool true, .int .i64 num, .bool ex] 25)) n) os) fun e w'' => e = .returned (.string (strOf (wordD 9))) ∧ ∃ q : Regrown, w'' = Sort.grow (redrawn (w.alloc (.cells #[.int .i64 9, .string t, .string v, .slice A1 l1 c1, .bool tru, .bool asg, .slice A2 l2 c2, .slice (some ⟨bx, ox, none⟩) 2 c3, .slice (some ⟨bv, ov, none⟩) 1 c4, .bool true, .int .i64 num, .bool ex] 25)) q.d) q.os := fun n os => Calls.regrown_of (Calls.mono (word_any 9 (by decide) _) fun _ _ h => h.det)
  have cP : ∀ n os, Calls Tryz.prog 9 #[.agg #[.int .i64 p.kind, .string p.text, .string p.value, .slice A1x l1x d1x, .bool p.tru, .bool p.assign, .slice A2x l2x d2x, .slice A3x l3x d3x, .slice A4x l4x d4x, .bool p.hasElse, .int .i64 p.num, .bool p.exact]] (Sort.grow (redrawn (w.alloc (.cells #[.int .i64 9, .string t, .string v, .slice A1 l1 c1, .bool tru, .bool asg, .slice A2 l2 c2, .slice (some ⟨bx, ox, none⟩) 2 c3, .slice (some ⟨bv, ov, none⟩) 1 c4, .bool true, .int .i64 num, .bool ex] 25)) n) os) fun e w'' => e = .returned (.string (strOf (pr d p))) ∧ ∃ q : Regrown, w'' = Sort.grow (redrawn (w.alloc (.cells #[.int .i64 9, .string t, .string v, .slice A1 l1 c1, .bool tru, .bool asg, .slice A2 l2 c2, .slice (some ⟨bx, ox, none⟩) 2 c3, .slice (some ⟨bv, ov, none⟩) 1 c4, .bool true, .int .i64 num, .bool ex] 25)) q.d) q.os := fun n os => Calls.regrown_of (Calls.mono (ih [_, _, _, _, _, _, _, _, _, _, _, _] p _ (SN.mono (fun _ h _ => h) (Keeps.of_below (below_gr _ n os)) _ _ _ hsnx) sp hpp (Nat.le_trans hB (below_gr _ n os).size)) fun _ _ h => h.det)
  have cQ : ∀ n os, Calls Tryz.prog 9 #[.agg #[.int .i64 q.kind, .string q.text, .string q.value, .slice A1y l1y d1y, .bool q.tru, .bool q.assign, .slice A2y l2y d2y, .slice A3y l3y d3y, .slice A4y l4y d4y, .bool q.hasElse, .int .i64 q.num, .bool q.exact]] (Sort.grow (redrawn (w.alloc (.cells #[.int .i64 9, .string t, .string v, .slice A1 l1 c1, .bool tru, .bool asg, .slice A2 l2 c2, .slice (some ⟨bx, ox, none⟩) 2 c3, .slice (some ⟨bv, ov, none⟩) 1 c4, .bool true, .int .i64 num, .bool ex] 25)) n) os) fun e w'' => e = .returned (.string (strOf (pr d q))) ∧ ∃ q : Regrown, w'' = Sort.grow (redrawn (w.alloc (.cells #[.int .i64 9, .string t, .string v, .slice A1 l1 c1, .bool tru, .bool asg, .slice A2 l2 c2, .slice (some ⟨bx, ox, none⟩) 2 c3, .slice (some ⟨bv, ov, none⟩) 1 c4, .bool true, .int .i64 num, .bool ex] 25)) q.d) q.os := fun n os => Calls.regrown_of (Calls.mono (ih [_, _, _, _, _, _, _, _, _, _, _, _] q _ (SN.mono (fun _ h _ => h) (Keeps.of_below (below_gr _ n os)) _ _ _ hsny) sq hpq (Nat.le_trans hB (below_gr _ n os).size)) fun _ _ h => h.det)
  have ldx : ∀ n os, (LdS (.pointer (some ⟨bx, ox, none⟩))).run Tryz.prog (Sort.grow (redrawn (w.alloc (.cells #[.int .i64 9, .string t, .string v, .slice A1 l1 c1, .bool tru, .bool asg, .slice A2 l2 c2, .slice (some ⟨bx, ox, none⟩) 2 c3, .slice (some ⟨bv, ov, none⟩) 1 c4, .bool true, .int .i64 num, .bool ex] 25)) n) os) = .ok (.agg #[.int .i64 p.kind, .string p.text, .string p.value, .slice A1x l1x d1x, .bool p.tru, .bool p.assign, .slice A2x l2x d2x, .slice A3x l3x d3x, .slice A4x l4x d4x, .bool p.hasElse, .int .i64 p.num, .bool p.exact]) (Sort.grow (redrawn (w.alloc (.cells #[.int .i64 9, .string t, .string v, .slice A1 l1 c1, .bool tru, .bool asg, .slice A2 l2 c2, .slice (some ⟨bx, ox, none⟩) 2 c3, .slice (some ⟨bv, ov, none⟩) 1 c4, .bool true, .int .i64 num, .bool ex] 25)) n) os) := fun n os => hldx _ (below_gr _ n os)
  have ldy : ∀ n os, (LdS (.pointer (some ⟨bx, ox + 12, none⟩))).run Tryz.prog (Sort.grow (redrawn (w.alloc (.cells #[.int .i64 9, .string t, .string v, .slice A1 l1 c1, .bool tru, .bool asg, .slice A2 l2 c2, .slice (some ⟨bx, ox, none⟩) 2 c3, .slice (some ⟨bv, ov, none⟩) 1 c4, .bool true, .int .i64 num, .bool ex] 25)) n) os) = .ok (.agg #[.int .i64 q.kind, .string q.text, .string q.value, .slice A1y l1y d1y, .bool q.tru, .bool q.assign, .slice A2y l2y d2y, .slice A3y l3y d3y, .slice A4y l4y d4y, .bool q.hasElse, .int .i64 q.num, .bool q.exact]) (Sort.grow (redrawn (w.alloc (.cells #[.int .i64 9, .string t, .string v, .slice A1 l1 c1, .bool tru, .bool asg, .slice A2 l2 c2, .slice (some ⟨bx, ox, none⟩) 2 c3, .slice (some ⟨bv, ov, none⟩) 1 c4, .bool true, .int .i64 num, .bool ex] 25)) n) os) := fun n os => hldy _ (below_gr _ n os)
  have k0 : ∀ n os, (Sort.grow (redrawn (w.alloc (.cells #[.int .i64 9, .string t, .string v, .slice A1 l1 c1, .bool tru, .bool asg, .slice A2 l2 c2, .slice (some ⟨bx, ox, none⟩) 2 c3, .slice (some ⟨bv, ov, none⟩) 1 c4, .bool true, .int .i64 num, .bool ex] 25)) n) os).cell? ⟨w.heap.size, 0, none⟩ = some (.int .i64 9) := fun n os => cell_regrown (World.cell?_alloc_at _ _ _ _ rfl) n os
  have k7 : ∀ n os, (Sort.grow (redrawn (w.alloc (.cells #[.int .i64 9, .string t, .string v, .slice A1 l1 c1, .bool tru, .bool asg, .slice A2 l2 c2, .slice (some ⟨bx, ox, none⟩) 2 c3, .slice (some ⟨bv, ov, none⟩) 1 c4, .bool true, .int .i64 num, .bool ex] 25)) n) os).cell? ⟨w.heap.size, 7, none⟩ = some (.slice (some ⟨bx, ox, none⟩) 2 c3) := fun n os => cell_regrown (World.cell?_alloc_at _ _ _ _ rfl) n os
  have k9 : ∀ n os, (Sort.grow (redrawn (w.alloc (.cells #[.int .i64 9, .string t, .string v, .slice A1 l1 c1, .bool tru, .bool asg, .slice A2 l2 c2, .slice (some ⟨bx, ox, none⟩) 2 c3, .slice (some ⟨bv, ov, none⟩) 1 c4, .bool true, .int .i64 num, .bool ex] 25)) n) os).cell? ⟨w.heap.size, 9, none⟩ = some (.bool true) := fun n os => cell_regrown (World.cell?_alloc_at _ _ _ _ rfl) n os
  have cZ : ∀ n os, Calls Tryz.prog 9 #[.agg #[.int .i64 z.kind, .string z.text, .string z.value, .slice A1v l1v d1v, .bool z.tru, .bool z.assign, .slice A2v l2v d2v, .slice A3v l3v d3v, .slice A4v l4v d4v, .bool z.hasElse, .int .i64 z.num, .bool z.exact]] (Sort.grow (redrawn (w.alloc (.cells #[.int .i64 9, .string t, .string v, .slice A1 l1 c1, .bool tru, .bool asg, .slice A2 l2 c2, .slice (some ⟨bx, ox, none⟩) 2 c3, .slice (some ⟨bv, ov, none⟩) 1 c4, .bool true, .int .i64 num, .bool ex] 25)) n) os) fun e w'' => e = .returned (.string (strOf (pr d z))) ∧ Below (Sort.grow (redrawn (w.alloc (.cells #[.int .i64 9, .string t, .string v, .slice A1 l1 c1, .bool tru, .bool asg, .slice A2 l2 c2, .slice (some ⟨bx, ox, none⟩) 2 c3, .slice (some ⟨bv, ov, none⟩) 1 c4, .bool true, .int .i64 num, .bool ex] 25)) n) os).heap.size (Sort.grow (redrawn (w.alloc (.cells #[.int .i64 9, .string t, .string v, .slice A1 l1 c1, .bool tru, .bool asg, .slice A2 l2 c2, .slice (some ⟨bx, ox, none⟩) 2 c3, .slice (some ⟨bv, ov, none⟩) 1 c4, .bool true, .int .i64 num, .bool ex] 25)) n) os) w'' := fun n os => (Calls.mono (ih [_, _, _, _, _, _, _, _, _, _, _, _] z _ (SN.mono (fun _ h _ => h) (Keeps.of_below (below_gr _ n os)) _ _ _ hsnv) sz hpz (Nat.le_trans hB (below_gr _ n os).size)) fun _ _ h => h.det)
  have ldv : ∀ n os, (LdS (.pointer (some ⟨bv, ov, none⟩))).run Tryz.prog (Sort.grow (redrawn (w.alloc (.cells #[.int .i64 9, .string t, .string v, .slice A1 l1 c1, .bool tru, .bool asg, .slice A2 l2 c2, .slice (some ⟨bx, ox, none⟩) 2 c3, .slice (some ⟨bv, ov, none⟩) 1 c4, .bool true, .int .i64 num, .bool ex] 25)) n) os) = .ok (.agg #[.int .i64 z.kind, .string z.text, .string z.value, .slice A1v l1v d1v, .bool z.tru, .bool z.assign, .slice A2v l2v d2v, .slice A3v l3v d3v, .slice A4v l4v d4v, .bool z.hasElse, .int .i64 z.num, .bool z.exact]) (Sort.grow (redrawn (w.alloc (.cells #[.int .i64 9, .string t, .string v, .slice A1 l1 c1, .bool tru, .bool asg, .slice A2 l2 c2, .slice (some ⟨bx, ox, none⟩) 2 c3, .slice (some ⟨bv, ov, none⟩) 1 c4, .bool true, .int .i64 num, .bool ex] 25)) n) os) := fun n os => hldv _ (below_gr _ n os)
  have k8 : ∀ n os, (Sort.grow (redrawn (w.alloc (.cells #[.int .i64 9, .string t, .string v, .slice A1 l1 c1, .bool tru, .bool asg, .slice A2 l2 c2, .slice (some ⟨bx, ox, none⟩) 2 c3, .slice (some ⟨bv, ov, none⟩) 1 c4, .bool true, .int .i64 num, .bool ex] 25)) n) os).cell? ⟨w.heap.size, 8, none⟩ = some (.slice (some ⟨bv, ov, none⟩) 1 c4) := fun n os => cell_regrown (World.cell?_alloc_at _ _ _ _ rfl) n os
  have hd0 := strOf_data (wordD 9)
  have hd1 := strOf_data (pr d p)
  have hd2 := strOf_data (pr d q)
  have hd3 := strOf_data (pr d z)
  generalize hgw : strOf (wordD 9) = s0 at *
  generalize hgp : strOf (pr d p) = s1 at *
  generalize hgq : strOf (pr d q) = s2 at *
  generalize hgz : strOf (pr d z) = s3 at *
  have HD0 := Lib.hid hd0
  have HD1 := Lib.hid hd1
  have HD2 := Lib.hid hd2
  have HD3 := Lib.hid hd3
  have hz3' : s3.size ≤ 41943040 := by omega
  have hz2' : 2 + s0.size + 1 + s1.size + 2 + s2.size ≤ 41943040 := by omega
  have n1 : ¬ 9223372036854775807 < 2 + s0.size := by omega
  have n2 : ¬ 9223372036854775807 < 2 + s0.size + 1 := by omega
  have n3 : ¬ 9223372036854775807 < 2 + s0.size + 1 + s1.size := by omega
  have n4 : ¬ 9223372036854775807 < 2 + s0.size + 1 + s1.size + 2 := by omega
  have n5 : ¬ 9223372036854775807 < 2 + s0.size + 1 + s1.size + 2 + s2.size := by omega
  clear hs hp e0 hlen ih sp hpp sq hpq h3 hsnx hldx hltx hsny hldy hlty hAy hd0 hd1 hd2 hz0 hz1 hz2 hgw hgp hgq h4 sz hpz hsnv hldv hltv hd3 hz3 hgz
  have CZ := Lib.hid cZ
  clear cZ
  go_enter Tryz.func9, Tryz.ntmps9
  go_wp2_with fail
  refine wp_region_quiet_below (by kernel_rfl) (by kernel_rfl) ?_
  repeat (quiet_step (first | (go_at_call 22; exact cW _ _) | (go_at_call_of 9 A1x; exact cP _ _) | (go_at_call_of 9 A1y; exact cQ _ _)))
  refine wpQuiet_nil ?_
  intro _ hw'
  obtain ⟨⟨dq, osq⟩, hw''⟩ := hw'
  subst hw''
  clear n1 n2 n3 n4 n5 cW cP cQ
  go_wp2_with fail
  refine Calls.mono (CZ.out _ _) ?_
  rintro e w2 ⟨rfl, hb⟩
  have HB := Lib.hid (below_trans (below_gr _ dq osq) hb)
  clear hb
  go_wp2
  go_ret
  exact ⟨_, rfl, by simp only [append_data, HD0.out, HD1.out, HD2.out, HD3.out]; simp [lbr, rbr, wordD], HB.out⟩

set_option maxHeartbeats 2000000 in
set_option maxRecDepth 100000 in
theorem sp_range0 (B d : Nat) (p q : Nd) (ih : PrintAt B d) (t v : ByteArray) (names : List ByteArray) (tru asg : Bool) (decl : List Nd) (num : Int) (ex : Bool) (w : World) (A1 A2 A3 A4 : Option Addr) (c1 c2 c3 c4 : Nat) (h3 : Row w (· < B) 12 (SN w (· < B) d) (.slice A3 2 c3) [p, q]) (sp : Sm d p) (hpp : Shp d p) (sq : Sm d q) (hpq : Shp d q) (hs : Sm (d + 1) (.mk 14 t v names tru asg decl [p, q] [] false num ex)) (hp : Shp (d + 1) (.mk 14 t v names tru asg decl [p, q] [] false num ex)) (hB : B ≤ w.heap.size) :
    Calls Tryz.prog 9 #[.agg #[.int .i64 14, .string t, .string v, .slice A1 names.length c1, .bool tru, .bool asg, .slice A2 decl.length c2, .slice A3 2 c3, .slice A4 0 c4, .bool false, .int .i64 num, .bool ex]] w (SpPost w (pr (d + 1) (.mk 14 t v names tru asg decl [p, q] [] false num ex))) := by
  have hlen := pr_small hs hp
  have e0 : pr (d + 1) (.mk 14 t v names tru asg decl [p, q] [] false num ex) = lbr ++ wordD 14 ++ [32] ++ pr d p ++ rbr ++ pr d q ++ lbr ++ [101, 110, 100] ++ rbr := by simp [pr, Nd.kind, Nd.text, Nd.names, Nd.kids, Nd.decl, Nd.els, Nd.hasElse, Nd.assign, Nd.tru, firstD, secondD]
  rw [e0] at hlen ⊢
  simp only [List.length_append, List.length_cons, List.length_nil, by'_len, lbr, rbr] at hlen
  have hz0 := size_data (strOf_data (wordD 14))
  have hz1 := size_data (strOf_data (pr d p))
  have hz2 := size_data (strOf_data (pr d q))
  obtain ⟨p0, bx, ox, A1x, d1x, A2x, d2x, A3x, d3x, A4x, d4x, l1x, l2x, l3x, l4x, hpk, hAx, hltx, hsnx, hldx⟩ := SN.kid (l := [p, q]) h3 (k := 0) (by simp)
  obtain rfl : p = p0 := hpk
  obtain ⟨p0, bY, oY, A1y, d1y, A2y, d2y, A3y, d3y, A4y, d4y, l1y, l2y, l3y, l4y, hpk, hAy, hlty, hsny, hldy⟩ := SN.kid (l := [p, q]) h3 (k := 1) (by simp)
  obtain rfl : q = p0 := hpk
  subst hAx
  obtain ⟨rfl, rfl⟩ : bx = bY ∧ ox = oY := by injection hAy with h; injection h with h1 h2; exact ⟨h1, h2⟩
  simp only [Nat.zero_mul, Nat.add_zero] at hldx
  simp only [Nat.one_mul] at hldy
  generalize names.length = l1 at *
  generalize decl.length = l2 at *
  have cW : ∀ n os, Calls Tryz.prog 22 #[.int .i64 14] (Sort.grow (redrawn (w.alloc (.cells #[.int .i64 14, .string t, .string v, .slice A1 l1 c1, .bool tru, .bool asg, .slice A2 l2 c2, .slice (some ⟨bx, ox, none⟩) 2 c3, .slice A4 0 c4, .bool false, .int .i64 num, .bool ex] 25)) n) os) fun e w'' => e = .returned (.string (strOf (wordD 14))) ∧ ∃ q : Regrown, w'' = Sort.grow (redrawn (w.alloc (.cells #[.int .i64 14, .string t, .string v, .slice A1 l1 c1, .bool tru, .bool asg, .slice A2 l2 c2, .slice (some ⟨bx, ox, none⟩) 2 c3, .slice A4 0 c4, .bool false, .int .i64 num, .bool ex] 25)) q.d) q.os := fun n os => Calls.regrown_of (Calls.mono (word_any 14 (by decide) _) fun _ _ h => h.det)
  have cP : ∀ n os, Calls Tryz.prog 9 #[.agg #[.int .i64 p.kind, .string p.text, .string p.value, .slice A1x l1x d1x, .bool p.tru, .bool p.assign, .slice A2x l2x d2x, .slice A3x l3x d3x, .slice A4x l4x d4x, .bool p.hasElse, .int .i64 p.num, .bool p.exact]] (Sort.grow (redrawn (w.alloc (.cells #[.int .i64 14, .string t, .string v, .slice A1 l1 c1, .bool tru, .bool asg, .slice A2 l2 c2, .slice (some ⟨bx, ox, none⟩) 2 c3, .slice A4 0 c4, .bool false, .int .i64 num, .bool ex] 25)) n) os) fun e w'' => e = .returned (.string (strOf (pr d p))) ∧ ∃ q : Regrown, w'' = Sort.grow (redrawn (w.alloc (.cells #[.int .i64 14, .string t, .string v, .slice A1 l1 c1, .bool tru, .bool asg, .slice A2 l2 c2, .slice (some ⟨bx, ox, none⟩) 2 c3, .slice A4 0 c4, .bool false, .int .i64 num, .bool ex] 25)) q.d) q.os := fun n os => Calls.regrown_of (Calls.mono (ih [_, _, _, _, _, _, _, _, _, _, _, _] p _ (SN.mono (fun _ h _ => h) (Keeps.of_below (below_gr _ n os)) _ _ _ hsnx) sp hpp (Nat.le_trans hB (below_gr _ n os).size)) fun _ _ h => h.det)
  have cQ : ∀ n os, Calls Tryz.prog 9 #[.agg #[.int .i64 q.kind, .string q.text, .string q.value, .slice A1y l1y d1y, .bool q.tru, .bool q.assign, .slice A2y l2y d2y, .slice A3y l3y d3y, .slice A4y l4y d4y, .bool q.hasElse, .int .i64 q.num, .bool q.exact]] (Sort.grow (redrawn (w.alloc (.cells #[.int .i64 14, .string t, .string v, .slice A1 l1 c1, .bool tru, .bool asg, .slice A2 l2 c2, .slice (some ⟨bx, ox, none⟩) 2 c3, .slice A4 0 c4, .bool false, .int .i64 num, .bool ex] 25)) n) os) fun e w'' => e = .returned (.string (strOf (pr d q))) ∧ ∃ q : Regrown, w'' = Sort.grow (redrawn (w.alloc (.cells #[.int .i64 14, .string t, .string v, .slice A1 l1 c1, .bool tru, .bool asg, .slice A2 l2 c2, .slice (some ⟨bx, ox, none⟩) 2 c3, .slice A4 0 c4, .bool false, .int .i64 num, .bool ex] 25)) q.d) q.os := fun n os => Calls.regrown_of (Calls.mono (ih [_, _, _, _, _, _, _, _, _, _, _, _] q _ (SN.mono (fun _ h _ => h) (Keeps.of_below (below_gr _ n os)) _ _ _ hsny) sq hpq (Nat.le_trans hB (below_gr _ n os).size)) fun _ _ h => h.det)
  have ldx : ∀ n os, (LdS (.pointer (some ⟨bx, ox, none⟩))).run Tryz.prog (Sort.grow (redrawn (w.alloc (.cells #[.int .i64 14, .string t, .string v, .slice A1 l1 c1, .bool tru, .bool asg, .slice A2 l2 c2, .slice (some ⟨bx, ox, none⟩) 2 c3, .slice A4 0 c4, .bool false, .int .i64 num, .bool ex] 25)) n) os) = .ok (.agg #[.int .i64 p.kind, .string p.text, .string p.value, .slice A1x l1x d1x, .bool p.tru, .bool p.assign, .slice A2x l2x d2x, .slice A3x l3x d3x, .slice A4x l4x d4x, .bool p.hasElse, .int .i64 p.num, .bool p.exact]) (Sort.grow (redrawn (w.alloc (.cells #[.int .i64 14, .string t, .string v, .slice A1 l1 c1, .bool tru, .bool asg, .slice A2 l2 c2, .slice (some ⟨bx, ox, none⟩) 2 c3, .slice A4 0 c4, .bool false, .int .i64 num, .bool ex] 25)) n) os) := fun n os => hldx _ (below_gr _ n os)
  have ldy : ∀ n os, (LdS (.pointer (some ⟨bx, ox + 12, none⟩))).run Tryz.prog (Sort.grow (redrawn (w.alloc (.cells #[.int .i64 14, .string t, .string v, .slice A1 l1 c1, .bool tru, .bool asg, .slice A2 l2 c2, .slice (some ⟨bx, ox, none⟩) 2 c3, .slice A4 0 c4, .bool false, .int .i64 num, .bool ex] 25)) n) os) = .ok (.agg #[.int .i64 q.kind, .string q.text, .string q.value, .slice A1y l1y d1y, .bool q.tru, .bool q.assign, .slice A2y l2y d2y, .slice A3y l3y d3y, .slice A4y l4y d4y, .bool q.hasElse, .int .i64 q.num, .bool q.exact]) (Sort.grow (redrawn (w.alloc (.cells #[.int .i64 14, .string t, .string v, .slice A1 l1 c1, .bool tru, .bool asg, .slice A2 l2 c2, .slice (some ⟨bx, ox, none⟩) 2 c3, .slice A4 0 c4, .bool false, .int .i64 num, .bool ex] 25)) n) os) := fun n os => hldy _ (below_gr _ n os)
  have k0 : ∀ n os, (Sort.grow (redrawn (w.alloc (.cells #[.int .i64 14, .string t, .string v, .slice A1 l1 c1, .bool tru, .bool asg, .slice A2 l2 c2, .slice (some ⟨bx, ox, none⟩) 2 c3, .slice A4 0 c4, .bool false, .int .i64 num, .bool ex] 25)) n) os).cell? ⟨w.heap.size, 0, none⟩ = some (.int .i64 14) := fun n os => cell_regrown (World.cell?_alloc_at _ _ _ _ rfl) n os
  have k7 : ∀ n os, (Sort.grow (redrawn (w.alloc (.cells #[.int .i64 14, .string t, .string v, .slice A1 l1 c1, .bool tru, .bool asg, .slice A2 l2 c2, .slice (some ⟨bx, ox, none⟩) 2 c3, .slice A4 0 c4, .bool false, .int .i64 num, .bool ex] 25)) n) os).cell? ⟨w.heap.size, 7, none⟩ = some (.slice (some ⟨bx, ox, none⟩) 2 c3) := fun n os => cell_regrown (World.cell?_alloc_at _ _ _ _ rfl) n os
  have k9 : ∀ n os, (Sort.grow (redrawn (w.alloc (.cells #[.int .i64 14, .string t, .string v, .slice A1 l1 c1, .bool tru, .bool asg, .slice A2 l2 c2, .slice (some ⟨bx, ox, none⟩) 2 c3, .slice A4 0 c4, .bool false, .int .i64 num, .bool ex] 25)) n) os).cell? ⟨w.heap.size, 9, none⟩ = some (.bool false) := fun n os => cell_regrown (World.cell?_alloc_at _ _ _ _ rfl) n os
  have hd0 := strOf_data (wordD 14)
  have hd1 := strOf_data (pr d p)
  have hd2 := strOf_data (pr d q)
  generalize hgw : strOf (wordD 14) = s0 at *
  generalize hgp : strOf (pr d p) = s1 at *
  generalize hgq : strOf (pr d q) = s2 at *
  have HD0 := Lib.hid hd0
  have HD1 := Lib.hid hd1
  have HD2 := Lib.hid hd2
  have hz2' : 2 + s0.size + 1 + s1.size + 2 + s2.size ≤ 41943040 := by omega
  have n1 : ¬ 9223372036854775807 < 2 + s0.size := by omega
  have n2 : ¬ 9223372036854775807 < 2 + s0.size + 1 := by omega
  have n3 : ¬ 9223372036854775807 < 2 + s0.size + 1 + s1.size := by omega
  have n4 : ¬ 9223372036854775807 < 2 + s0.size + 1 + s1.size + 2 := by omega
  have n5 : ¬ 9223372036854775807 < 2 + s0.size + 1 + s1.size + 2 + s2.size := by omega
  clear hs hp e0 hlen ih sp hpp sq hpq h3 hsnx hldx hltx hsny hldy hlty hAy hd0 hd1 hd2 hz0 hz1 hz2 hgw hgp hgq
  go_enter Tryz.func9, Tryz.ntmps9
  go_wp2_with fail
  refine wp_region_quiet_below (by kernel_rfl) (by kernel_rfl) ?_
  repeat (quiet_step (first | (go_at_call 22; exact cW _ _) | (go_at_call_of 9 A1x; exact cP _ _) | (go_at_call_of 9 A1y; exact cQ _ _)))
  refine wpQuiet_nil ?_
  intro _ hw'
  obtain ⟨⟨dq, osq⟩, hw''⟩ := hw'
  subst hw''
  clear n1 n2 n3 n4 n5 cW cP cQ
  go_wp2
  go_ret
  exact ⟨_, rfl, by simp only [append_data, HD0.out, HD1.out, HD2.out]; simp [lbr, rbr, wordD], below_gr _ dq osq⟩

set_option maxHeartbeats 2000000 in
set_option maxRecDepth 100000 in
theorem sp_range1 (B d : Nat) (p q z : Nd) (ih : PrintAt B d) (t v : ByteArray) (names : List ByteArray) (tru asg : Bool) (decl : List Nd) (num : Int) (ex : Bool) (w : World) (A1 A2 A3 A4 : Option Addr) (c1 c2 c3 c4 : Nat) (h3 : Row w (· < B) 12 (SN w (· < B) d) (.slice A3 2 c3) [p, q]) (sp : Sm d p) (hpp : Shp d p) (sq : Sm d q) (hpq : Shp d q) (h4 : Row w (· < B) 12 (SN w (· < B) d) (.slice A4 1 c4) [z]) (sz : Sm d z) (hpz : Shp d z) (hs : Sm (d + 1) (.mk 14 t v names tru asg decl [p, q] [z] true num ex)) (hp : Shp (d + 1) (.mk 14 t v names tru asg decl [p, q] [z] true num ex)) (hB : B ≤ w.heap.size) :
    Calls Tryz.prog 9 #[.agg #[.int .i64 14, .string t, .string v, .slice A1 names.length c1, .bool tru, .bool asg, .slice A2 decl.length c2, .slice A3 2 c3, .slice A4 1 c4, .bool true, .int .i64 num, .bool ex]] w (SpPost w (pr (d + 1) (.mk 14 t v names tru asg decl [p, q] [z] true num ex))) := by
  have hlen := pr_small hs hp
  have e0 : pr (d + 1) (.mk 14 t v names tru asg decl [p, q] [z] true num ex) = lbr ++ wordD 14 ++ [32] ++ pr d p ++ rbr ++ pr d q ++ (lbr ++ [101, 108, 115, 101] ++ rbr ++ pr d z) ++ lbr ++ [101, 110, 100] ++ rbr := by simp [pr, Nd.kind, Nd.text, Nd.names, Nd.kids, Nd.decl, Nd.els, Nd.hasElse, Nd.assign, Nd.tru, firstD, secondD]
  rw [e0] at hlen ⊢
  simp only [List.length_append, List.length_cons, List.length_nil, by'_len, lbr, rbr] at hlen
  have hz0 := size_data (strOf_data (wordD 14))
  have hz1 := size_data (strOf_data (pr d p))
  have hz2 := size_data (strOf_data (pr d q))
  have hz3 := size_data (strOf_data (pr d z))
  obtain ⟨p0, bx, ox, A1x, d1x, A2x, d2x, A3x, d3x, A4x, d4x, l1x, l2x, l3x, l4x, hpk, hAx, hltx, hsnx, hldx⟩ := SN.kid (l := [p, q]) h3 (k := 0) (by simp)
  obtain rfl : p = p0 := hpk
  obtain ⟨p0, bY, oY, A1y, d1y, A2y, d2y, A3y, d3y, A4y, d4y, l1y, l2y, l3y, l4y, hpk, hAy, hlty, hsny, hldy⟩ := SN.kid (l := [p, q]) h3 (k := 1) (by simp)
  obtain rfl : q = p0 := hpk
  obtain ⟨p0, bv, ov, A1v, d1v, A2v, d2v, A3v, d3v, A4v, d4v, l1v, l2v, l3v, l4v, hpk, hAv, hltv, hsnv, hldv⟩ := SN.kid (l := [z]) h4 (k := 0) (by simp)
  obtain rfl : z = p0 := hpk
  subst hAx
  obtain ⟨rfl, rfl⟩ : bx = bY ∧ ox = oY := by injection hAy with h; injection h with h1 h2; exact ⟨h1, h2⟩
  subst hAv
  simp only [Nat.zero_mul, Nat.add_zero] at hldv
  simp only [Nat.zero_mul, Nat.add_zero] at hldx
  simp only [Nat.one_mul] at hldy
  generalize names.length = l1 at *
  generalize decl.length = l2 at *
  have cW : ∀ n os, Calls Tryz.prog 22 #[.int .i64 14] (Sort.grow (redrawn (w.alloc (.cells #[.int .i64 14, .string t, .string v, .slice A1 l1 c1, .bool tru, .bool asg, .slice A2 l2 c2, .slice (some ⟨bx, ox, none⟩) 2 c3, .slice (some ⟨bv, ov, none⟩) 1 c4, .bool true, .int .i64 num, .bool ex] 25)) n) os) fun e w'' => e = .returned (.string (strOf (wordD 14))) ∧ ∃ q : Regrown, w'' = Sort.grow (redrawn (w.alloc (.cells #[.int .i64 14, .string t, .string v, .slice A1 l1 c1, .bool tru, .bool asg, .slice A2 l2 c2, .slice (some ⟨bx, ox, none⟩) 2 c3, .slice (some ⟨bv, ov, none⟩) 1 c4, .bool true, .int .i64 num, .bool ex] 25)) q.d) q.os := fun n os => Calls.regrown_of (Calls.mono (word_any 14 (by decide) _) fun _ _ h => h.det)
  have cP : ∀ n os, Calls Tryz.prog 9 #[.agg #[.int .i64 p.kind, .string p.text, .string p.value, .slice A1x l1x d1x, .bool p.tru, .bool p.assign, .slice A2x l2x d2x, .slice A3x l3x d3x, .slice A4x l4x d4x, .bool p.hasElse, .int .i64 p.num, .bool p.exact]] (Sort.grow (redrawn (w.alloc (.cells #[.int .i64 14, .string t, .string v, .slice A1 l1 c1, .bool tru, .bool asg, .slice A2 l2 c2, .slice (some ⟨bx, ox, none⟩) 2 c3, .slice (some ⟨bv, ov, none⟩) 1 c4, .bool true, .int .i64 num, .bool ex] 25)) n) os) fun e w'' => e = .returned (.string (strOf (pr d p))) ∧ ∃ q : Regrown, w'' = Sort.grow (redrawn (w.alloc (.cells #[.int .i64 14, .string t, .string v, .slice A1 l1 c1, .bool tru, .bool asg, .slice A2 l2 c2, .slice (some ⟨bx, ox, none⟩) 2 c3, .slice (some ⟨bv, ov, none⟩) 1 c4, .bool true, .int .i64 num, .bool ex] 25)) q.d) q.os := fun n os => Calls.regrown_of (Calls.mono (ih [_, _, _, _, _, _, _, _, _, _, _, _] p _ (SN.mono (fun _ h _ => h) (Keeps.of_below (below_gr _ n os)) _ _ _ hsnx) sp hpp (Nat.le_trans hB (below_gr _ n os).size)) fun _ _ h => h.det)
  have cQ : ∀ n os, Calls Tryz.prog 9 #[.agg #[.int .i64 q.kind, .string q.text, .string q.value, .slice A1y l1y d1y, .bool q.tru, .bool q.assign, .slice A2y l2y d2y, .slice A3y l3y d3y, .slice A4y l4y d4y, .bool q.hasElse, .int .i64 q.num, .bool q.exact]] (Sort.grow (redrawn (w.alloc (.cells #[.int .i64 14, .string t, .string v, .slice A1 l1 c1, .bool tru, .bool asg, .slice A2 l2 c2, .slice (some ⟨bx, ox, none⟩) 2 c3, .slice (some ⟨bv, ov, none⟩) 1 c4, .bool true, .int .i64 num, .bool ex] 25)) n) os) fun e w'' => e = .returned (.string (strOf (pr d q))) ∧ ∃ q : Regrown, w'' = Sort.grow (redrawn (w.alloc (.cells #[.int .i64 14, .string t, .string v, .slice A1 l1 c1, .bool tru, .bool asg, .slice A2 l2 c2, .slice (some ⟨bx, ox, none⟩) 2 c3, .slice (some ⟨bv, ov, none⟩) 1 c4, .bool true, .int .i64 num, .bool ex] 25)) q.d) q.os := fun n os => Calls.regrown_of (Calls.mono (ih [_, _, _, _, _, _, _, _, _, _, _, _] q _ (SN.mono (fun _ h _ => h) (Keeps.of_below (below_gr _ n os)) _ _ _ hsny) sq hpq (Nat.le_trans hB (below_gr _ n os).size)) fun _ _ h => h.det)
  have ldx : ∀ n os, (LdS (.pointer (some ⟨bx, ox, none⟩))).run Tryz.prog (Sort.grow (redrawn (w.alloc (.cells #[.int .i64 14, .string t, .string v, .slice A1 l1 c1, .bool tru, .bool asg, .slice A2 l2 c2, .slice (some ⟨bx, ox, none⟩) 2 c3, .slice (some ⟨bv, ov, none⟩) 1 c4, .bool true, .int .i64 num, .bool ex] 25)) n) os) = .ok (.agg #[.int .i64 p.kind, .string p.text, .string p.value, .slice A1x l1x d1x, .bool p.tru, .bool p.assign, .slice A2x l2x d2x, .slice A3x l3x d3x, .slice A4x l4x d4x, .bool p.hasElse, .int .i64 p.num, .bool p.exact]) (Sort.grow (redrawn (w.alloc (.cells #[.int .i64 14, .string t, .string v, .slice A1 l1 c1, .bool tru, .bool asg, .slice A2 l2 c2, .slice (some ⟨bx, ox, none⟩) 2 c3, .slice (some ⟨bv, ov, none⟩) 1 c4, .bool true, .int .i64 num, .bool ex] 25)) n) os) := fun n os => hldx _ (below_gr _ n os)
  have ldy : ∀ n os, (LdS (.pointer (some ⟨bx, ox + 12, none⟩))).run Tryz.prog (Sort.grow (redrawn (w.alloc (.cells #[.int .i64 14, .string t, .string v, .slice A1 l1 c1, .bool tru, .bool asg, .slice A2 l2 c2, .slice (some ⟨bx, ox, none⟩) 2 c3, .slice (some ⟨bv, ov, none⟩) 1 c4, .bool true, .int .i64 num, .bool ex] 25)) n) os) = .ok (.agg #[.int .i64 q.kind, .string q.text, .string q.value, .slice A1y l1y d1y, .bool q.tru, .bool q.assign, .slice A2y l2y d2y, .slice A3y l3y d3y, .slice A4y l4y d4y, .bool q.hasElse, .int .i64 q.num, .bool q.exact]) (Sort.grow (redrawn (w.alloc (.cells #[.int .i64 14, .string t, .string v, .slice A1 l1 c1, .bool tru, .bool asg, .slice A2 l2 c2, .slice (some ⟨bx, ox, none⟩) 2 c3, .slice (some ⟨bv, ov, none⟩) 1 c4, .bool true, .int .i64 num, .bool ex] 25)) n) os) := fun n os => hldy _ (below_gr _ n os)
  have k0 : ∀ n os, (Sort.grow (redrawn (w.alloc (.cells #[.int .i64 14, .string t, .string v, .slice A1 l1 c1, .bool tru, .bool asg, .slice A2 l2 c2, .slice (some ⟨bx, ox, none⟩) 2 c3, .slice (some ⟨bv, ov, none⟩) 1 c4, .bool true, .int .i64 num, .bool ex] 25)) n) os).cell? ⟨w.heap.size, 0, none⟩ = some (.int .i64 14) := fun n os => cell_regrown (World.cell?_alloc_at _ _ _ _ rfl) n os
  have k7 : ∀ n os, (Sort.grow (redrawn (w.alloc (.cells #[.int .i64 14, .string t, .string v, .slice A1 l1 c1, .bool tru, .bool asg, .slice A2 l2 c2, .slice (some ⟨bx, ox, none⟩) 2 c3, .slice (some ⟨bv, ov, none⟩) 1 c4, .bool true, .int .i64 num, .bool ex] 25)) n) os).cell? ⟨w.heap.size, 7, none⟩ = some (.slice (some ⟨bx, ox, none⟩) 2 c3) := fun n os => cell_regrown (World.cell?_alloc_at _ _ _ _ rfl) n os
  have k9 : ∀ n os, (Sort.grow (redrawn (w.alloc (.cells #[.int .i64 14, .string t, .string v, .slice A1 l1 c1, .bool tru, .bool asg, .slice A2 l2 c2, .slice (some ⟨bx, ox, none⟩) 2 c3, .slice (some ⟨bv, ov, none⟩) 1 c4, .bool true, .int .i64 num, .bool ex] 25)) n) os).cell? ⟨w.heap.size, 9, none⟩ = some (.bool true) := fun n os => cell_regrown (World.cell?_alloc_at _ _ _ _ rfl) n os
  have cZ : ∀ n os, Calls Tryz.prog 9 #[.agg #[.int .i64 z.kind, .string z.text, .string z.value, .slice A1v l1v d1v, .bool z.tru, .bool z.assign, .slice A2v l2v d2v, .slice A3v l3v d3v, .slice A4v l4v d4v, .bool z.hasElse, .int .i64 z.num, .bool z.exact]] (Sort.grow (redrawn (w.alloc (.cells #[.int .i64 14, .string t, .string v, .slice A1 l1 c1, .bool tru, .bool asg, .slice A2 l2 c2, .slice (some ⟨bx, ox, none⟩) 2 c3, .slice (some ⟨bv, ov, none⟩) 1 c4, .bool true, .int .i64 num, .bool ex] 25)) n) os) fun e w'' => e = .returned (.string (strOf (pr d z))) ∧ Below (Sort.grow (redrawn (w.alloc (.cells #[.int .i64 14, .string t, .string v, .slice A1 l1 c1, .bool tru, .bool asg, .slice A2 l2 c2, .slice (some ⟨bx, ox, none⟩) 2 c3, .slice (some ⟨bv, ov, none⟩) 1 c4, .bool true, .int .i64 num, .bool ex] 25)) n) os).heap.size (Sort.grow (redrawn (w.alloc (.cells #[.int .i64 14, .string t, .string v, .slice A1 l1 c1, .bool tru, .bool asg, .slice A2 l2 c2, .slice (some ⟨bx, ox, none⟩) 2 c3, .slice (some ⟨bv, ov, none⟩) 1 c4, .bool true, .int .i64 num, .bool ex] 25)) n) os) w'' := fun n os => (Calls.mono (ih [_, _, _, _, _, _, _, _, _, _, _, _] z _ (SN.mono (fun _ h _ => h) (Keeps.of_below (below_gr _ n os)) _ _ _ hsnv) sz hpz (Nat.le_trans hB (below_gr _ n os).size)) fun _ _ h => h.det)
  have ldv : ∀ n os, (LdS (.pointer (some ⟨bv, ov, none⟩))).run Tryz.prog (Sort.grow (redrawn (w.alloc (.cells #[.int .i64 14, .string t, .string v, .slice A1 l1 c1, .bool tru, .bool asg, .slice A2 l2 c2, .slice (some ⟨bx, ox, none⟩) 2 c3, .slice (some ⟨bv, ov, none⟩) 1 c4, .bool true, .int .i64 num, .bool ex] 25)) n) os) = .ok (.agg #[.int .i64 z.kind, .string z.text, .string z.value, .slice A1v l1v d1v, .bool z.tru, .bool z.assign, .slice A2v l2v d2v, .slice A3v l3v d3v, .slice A4v l4v d4v, .bool z.hasElse, .int .i64 z.num, .bool z.exact]) (Sort.grow (redrawn (w.alloc (.cells #[.int .i64 14, .string t, .string v, .slice A1 l1 c1, .bool tru, .bool asg, .slice A2 l2 c2, .slice (some ⟨bx, ox, none⟩) 2 c3, .slice (some ⟨bv, ov, none⟩) 1 c4, .bool true, .int .i64 num, .bool ex] 25)) n) os) := fun n os => hldv _ (below_gr _ n os)
  have k8 : ∀ n os, (Sort.grow (redrawn (w.alloc (.cells #[.int .i64 14, .string t, .string v, .slice A1 l1 c1, .bool tru, .bool asg, .slice A2 l2 c2, .slice (some ⟨bx, ox, none⟩) 2 c3, .slice (some ⟨bv, ov, none⟩) 1 c4, .bool true, .int .i64 num, .bool ex] 25)) n) os).cell? ⟨w.heap.size, 8, none⟩ = some (.slice (some ⟨bv, ov, none⟩) 1 c4) := fun n os => cell_regrown (World.cell?_alloc_at _ _ _ _ rfl) n os
  have hd0 := strOf_data (wordD 14)
  have hd1 := strOf_data (pr d p)
  have hd2 := strOf_data (pr d q)
  have hd3 := strOf_data (pr d z)
  generalize hgw : strOf (wordD 14) = s0 at *
  generalize hgp : strOf (pr d p) = s1 at *
  generalize hgq : strOf (pr d q) = s2 at *
  generalize hgz : strOf (pr d z) = s3 at *
  have HD0 := Lib.hid hd0
  have HD1 := Lib.hid hd1
  have HD2 := Lib.hid hd2
  have HD3 := Lib.hid hd3
  have hz3' : s3.size ≤ 41943040 := by omega
  have hz2' : 2 + s0.size + 1 + s1.size + 2 + s2.size ≤ 41943040 := by omega
  have n1 : ¬ 9223372036854775807 < 2 + s0.size := by omega
  have n2 : ¬ 9223372036854775807 < 2 + s0.size + 1 := by omega
  have n3 : ¬ 9223372036854775807 < 2 + s0.size + 1 + s1.size := by omega
  have n4 : ¬ 9223372036854775807 < 2 + s0.size + 1 + s1.size + 2 := by omega
  have n5 : ¬ 9223372036854775807 < 2 + s0.size + 1 + s1.size + 2 + s2.size := by omega
  clear hs hp e0 hlen ih sp hpp sq hpq h3 hsnx hldx hltx hsny hldy hlty hAy hd0 hd1 hd2 hz0 hz1 hz2 hgw hgp hgq h4 sz hpz hsnv hldv hltv hd3 hz3 hgz
  have CZ := Lib.hid cZ
  clear cZ
  go_enter Tryz.func9, Tryz.ntmps9
  go_wp2_with fail
  refine wp_region_quiet_below (by kernel_rfl) (by kernel_rfl) ?_
  repeat (quiet_step (first | (go_at_call 22; exact cW _ _) | (go_at_call_of 9 A1x; exact cP _ _) | (go_at_call_of 9 A1y; exact cQ _ _)))
  refine wpQuiet_nil ?_
  intro _ hw'
  obtain ⟨⟨dq, osq⟩, hw''⟩ := hw'
  subst hw''
  clear n1 n2 n3 n4 n5 cW cP cQ
  go_wp2_with fail
  refine Calls.mono (CZ.out _ _) ?_
  rintro e w2 ⟨rfl, hb⟩
  have HB := Lib.hid (below_trans (below_gr _ dq osq) hb)
  clear hb
  go_wp2
  go_ret
  exact ⟨_, rfl, by simp only [append_data, HD0.out, HD1.out, HD2.out, HD3.out]; simp [lbr, rbr, wordD], HB.out⟩

set_option maxHeartbeats 2000000 in
set_option maxRecDepth 100000 in
theorem sp_with0 (B d : Nat) (p q : Nd) (ih : PrintAt B d) (t v : ByteArray) (names : List ByteArray) (tru asg : Bool) (decl : List Nd) (num : Int) (ex : Bool) (w : World) (A1 A2 A3 A4 : Option Addr) (c1 c2 c3 c4 : Nat) (h3 : Row w (· < B) 12 (SN w (· < B) d) (.slice A3 2 c3) [p, q]) (sp : Sm d p) (hpp : Shp d p) (sq : Sm d q) (hpq : Shp d q) (hs : Sm (d + 1) (.mk 18 t v names tru asg decl [p, q] [] false num ex)) (hp : Shp (d + 1) (.mk 18 t v names tru asg decl [p, q] [] false num ex)) (hB : B ≤ w.heap.size) :
    Calls Tryz.prog 9 #[.agg #[.int .i64 18, .string t, .string v, .slice A1 names.length c1, .bool tru, .bool asg, .slice A2 decl.length c2, .slice A3 2 c3, .slice A4 0 c4, .bool false, .int .i64 num, .bool ex]] w (SpPost w (pr (d + 1) (.mk 18 t v names tru asg decl [p, q] [] false num ex))) := by
  have hlen := pr_small hs hp
  have e0 : pr (d + 1) (.mk 18 t v names tru asg decl [p, q] [] false num ex) = lbr ++ wordD 18 ++ [32] ++ pr d p ++ rbr ++ pr d q ++ lbr ++ [101, 110, 100] ++ rbr := by simp [pr, Nd.kind, Nd.text, Nd.names, Nd.kids, Nd.decl, Nd.els, Nd.hasElse, Nd.assign, Nd.tru, firstD, secondD]
  rw [e0] at hlen ⊢
  simp only [List.length_append, List.length_cons, List.length_nil, by'_len, lbr, rbr] at hlen
  have hz0 := size_data (strOf_data (wordD 18))
  have hz1 := size_data (strOf_data (pr d p))
  have hz2 := size_data (strOf_data (pr d q))
  obtain ⟨p0, bx, ox, A1x, d1x, A2x, d2x, A3x, d3x, A4x, d4x, l1x, l2x, l3x, l4x, hpk, hAx, hltx, hsnx, hldx⟩ := SN.kid (l := [p, q]) h3 (k := 0) (by simp)
  obtain rfl : p = p0 := hpk
  obtain ⟨p0, bY, oY, A1y, d1y, A2y, d2y, A3y, d3y, A4y, d4y, l1y, l2y, l3y, l4y, hpk, hAy, hlty, hsny, hldy⟩ := SN.kid (l := [p, q]) h3 (k := 1) (by simp)
  obtain rfl : q = p0 := hpk
  subst hAx
  obtain ⟨rfl, rfl⟩ : bx = bY ∧ ox = oY := by injection hAy with h; injection h with h1 h2; exact ⟨h1, h2⟩
  simp only [Nat.zero_mul, Nat.add_zero] at hldx
  simp only [Nat.one_mul] at hldy
  generalize names.length = l1 at *
  generalize decl.length = l2 at *
  have cW : ∀ n os, Calls Tryz.prog 22 #[.int .i64 18] (Sort.grow (redrawn (w.alloc (.cells #[.int .i64 18, .string t, .string v, .slice A1 l1 c1, .bool tru, .bool asg, .slice A2 l2 c2, .slice (some ⟨bx, ox, none⟩) 2 c3, .slice A4 0 c4, .bool false, .int .i64 num, .bool ex] 25)) n) os) fun e w'' => e = .returned (.string (strOf (wordD 18))) ∧ ∃ q : Regrown, w'' = Sort.grow (redrawn (w.alloc (.cells #[.int .i64 18, .string t, .string v, .slice A1 l1 c1, .bool tru, .bool asg, .slice A2 l2 c2, .slice (some ⟨bx, ox, none⟩) 2 c3, .slice A4 0 c4, .bool false, .int .i64 num, .bool ex] 25)) q.d) q.os := fun n os => Calls.regrown_of (Calls.mono (word_any 18 (by decide) _) fun _ _ h => h.det)
  have cP : ∀ n os, Calls Tryz.prog 9 #[.agg #[.int .i64 p.kind, .string p.text, .string p.value, .slice A1x l1x d1x, .bool p.tru, .bool p.assign, .slice A2x l2x d2x, .slice A3x l3x d3x, .slice A4x l4x d4x, .bool p.hasElse, .int .i64 p.num, .bool p.exact]] (Sort.grow (redrawn (w.alloc (.cells #[.int .i64 18, .string t, .string v, .slice A1 l1 c1, .bool tru, .bool asg, .slice A2 l2 c2, .slice (some ⟨bx, ox, none⟩) 2 c3, .slice A4 0 c4, .bool false, .int .i64 num, .bool ex] 25)) n) os) fun e w'' => e = .returned (.string (strOf (pr d p))) ∧ ∃ q : Regrown, w'' = Sort.grow (redrawn (w.alloc (.cells #[.int .i64 18, .string t, .string v, .slice A1 l1 c1, .bool tru, .bool asg, .slice A2 l2 c2, .slice (some ⟨bx, ox, none⟩) 2 c3, .slice A4 0 c4, .bool false, .int .i64 num, .bool ex] 25)) q.d) q.os := fun n os => Calls.regrown_of (Calls.mono (ih [_, _, _, _, _, _, _, _, _, _, _, _] p _ (SN.mono (fun _ h _ => h) (Keeps.of_below (below_gr _ n os)) _ _ _ hsnx) sp hpp (Nat.le_trans hB (below_gr _ n os).size)) fun _ _ h => h.det)
  have cQ : ∀ n os, Calls Tryz.prog 9 #[.agg #[.int .i64 q.kind, .string q.text, .string q.value, .slice A1y l1y d1y, .bool q.tru, .bool q.assign, .slice A2y l2y d2y, .slice A3y l3y d3y, .slice A4y l4y d4y, .bool q.hasElse, .int .i64 q.num, .bool q.exact]] (Sort.grow (redrawn (w.alloc (.cells #[.int .i64 18, .string t, .string v, .slice A1 l1 c1, .bool tru, .bool asg, .slice A2 l2 c2, .slice (some ⟨bx, ox, none⟩) 2 c3, .slice A4 0 c4, .bool false, .int .i64 num, .bool ex] 25)) n) os) fun e w'' => e = .returned (.string (strOf (pr d q))) ∧ ∃ q : Regrown, w'' = Sort.grow (redrawn (w.alloc (.cells #[.int .i64 18, .string t, .string v, .slice A1 l1 c1, .bool tru, .bool asg, .slice A2 l2 c2, .slice (some ⟨bx, ox, none⟩) 2 c3, .slice A4 0 c4, .bool false, .int .i64 num, .bool ex] 25)) q.d) q.os := fun n os => Calls.regrown_of (Calls.mono (ih [_, _, _, _, _, _, _, _, _, _, _, _] q _ (SN.mono (fun _ h _ => h) (Keeps.of_below (below_gr _ n os)) _ _ _ hsny) sq hpq (Nat.le_trans hB (below_gr _ n os).size)) fun _ _ h => h.det)
  have ldx : ∀ n os, (LdS (.pointer (some ⟨bx, ox, none⟩))).run Tryz.prog (Sort.grow (redrawn (w.alloc (.cells #[.int .i64 18, .string t, .string v, .slice A1 l1 c1, .bool tru, .bool asg, .slice A2 l2 c2, .slice (some ⟨bx, ox, none⟩) 2 c3, .slice A4 0 c4, .bool false, .int .i64 num, .bool ex] 25)) n) os) = .ok (.agg #[.int .i64 p.kind, .string p.text, .string p.value, .slice A1x l1x d1x, .bool p.tru, .bool p.assign, .slice A2x l2x d2x, .slice A3x l3x d3x, .slice A4x l4x d4x, .bool p.hasElse, .int .i64 p.num, .bool p.exact]) (Sort.grow (redrawn (w.alloc (.cells #[.int .i64 18, .string t, .string v, .slice A1 l1 c1, .bool tru, .bool asg, .slice A2 l2 c2, .slice (some ⟨bx, ox, none⟩) 2 c3, .slice A4 0 c4, .bool false, .int .i64 num, .bool ex] 25)) n) os) := fun n os => hldx _ (below_gr _ n os)
  have ldy : ∀ n os, (LdS (.pointer (some ⟨bx, ox + 12, none⟩))).run Tryz.prog (Sort.grow (redrawn (w.alloc (.cells #[.int .i64 18, .string t, .string v, .slice A1 l1 c1, .bool tru, .bool asg, .slice A2 l2 c2, .slice (some ⟨bx, ox, none⟩) 2 c3, .slice A4 0 c4, .bool false, .int .i64 num, .bool ex] 25)) n) os) = .ok (.agg #[.int .i64 q.kind, .string q.text, .string q.value, .slice A1y l1y d1y, .bool q.tru, .bool q.assign, .slice A2y l2y d2y, .slice A3y l3y d3y, .slice A4y l4y d4y, .bool q.hasElse, .int .i64 q.num, .bool q.exact]) (Sort.grow (redrawn (w.alloc (.cells #[.int .i64 18, .string t, .string v, .slice A1 l1 c1, .bool tru, .bool asg, .slice A2 l2 c2, .slice (some ⟨bx, ox, none⟩) 2 c3, .slice A4 0 c4, .bool false, .int .i64 num, .bool ex] 25)) n) os) := fun n os => hldy _ (below_gr _ n os)
  have k0 : ∀ n os, (Sort.grow (redrawn (w.alloc (.cells #[.int .i64 18, .string t, .string v, .slice A1 l1 c1, .bool tru, .bool asg, .slice A2 l2 c2, .slice (some ⟨bx, ox, none⟩) 2 c3, .slice A4 0 c4, .bool false, .int .i64 num, .bool ex] 25)) n) os).cell? ⟨w.heap.size, 0, none⟩ = some (.int .i64 18) := fun n os => cell_regrown (World.cell?_alloc_at _ _ _ _ rfl) n os
  have k7 : ∀ n os, (Sort.grow (redrawn (w.alloc (.cells #[.int .i64 18, .string t, .string v, .slice A1 l1 c1, .bool tru, .bool asg, .slice A2 l2 c2, .slice (some ⟨bx, ox, none⟩) 2 c3, .slice A4 0 c4, .bool false, .int .i64 num, .bool ex] 25)) n) os).cell? ⟨w.heap.size, 7, none⟩ = some (.slice (some ⟨bx, ox, none⟩) 2 c3) := fun n os => cell_regrown (World.cell?_alloc_at _ _ _ _ rfl) n os
  have k9 : ∀ n os, (Sort.grow (redrawn (w.alloc (.cells #[.int .i64 18, .string t, .string v, .slice A1 l1 c1, .bool tru, .bool asg, .slice A2 l2 c2, .slice (some ⟨bx, ox, none⟩) 2 c3, .slice A4 0 c4, .bool false, .int .i64 num, .bool ex] 25)) n) os).cell? ⟨w.heap.size, 9, none⟩ = some (.bool false) := fun n os => cell_regrown (World.cell?_alloc_at _ _ _ _ rfl) n os
  have hd0 := strOf_data (wordD 18)
  have hd1 := strOf_data (pr d p)
  have hd2 := strOf_data (pr d q)
  generalize hgw : strOf (wordD 18) = s0 at *
  generalize hgp : strOf (pr d p) = s1 at *
  generalize hgq : strOf (pr d q) = s2 at *
  have HD0 := Lib.hid hd0
  have HD1 := Lib.hid hd1
  have HD2 := Lib.hid hd2
  have hz2' : 2 + s0.size + 1 + s1.size + 2 + s2.size ≤ 41943040 := by omega
  have n1 : ¬ 9223372036854775807 < 2 + s0.size := by omega
  have n2 : ¬ 9223372036854775807 < 2 + s0.size + 1 := by omega
  have n3 : ¬ 9223372036854775807 < 2 + s0.size + 1 + s1.size := by omega
  have n4 : ¬ 9223372036854775807 < 2 + s0.size + 1 + s1.size + 2 := by omega
  have n5 : ¬ 9223372036854775807 < 2 + s0.size + 1 + s1.size + 2 + s2.size := by omega
  clear hs hp e0 hlen ih sp hpp sq hpq h3 hsnx hldx hltx hsny hldy hlty hAy hd0 hd1 hd2 hz0 hz1 hz2 hgw hgp hgq
  go_enter Tryz.func9, Tryz.ntmps9
  go_wp2_with fail
  refine wp_region_quiet_below (by kernel_rfl) (by kernel_rfl) ?_
  repeat (quiet_step (first | (go_at_call 22; exact cW _ _) | (go_at_call_of 9 A1x; exact cP _ _) | (go_at_call_of 9 A1y; exact cQ _ _)))
  refine wpQuiet_nil ?_
  intro _ hw'
  obtain ⟨⟨dq, osq⟩, hw''⟩ := hw'
  subst hw''
  clear n1 n2 n3 n4 n5 cW cP cQ
  go_wp2
  go_ret
  exact ⟨_, rfl, by simp only [append_data, HD0.out, HD1.out, HD2.out]; simp [lbr, rbr, wordD], below_gr _ dq osq⟩

set_option maxHeartbeats 2000000 in
set_option maxRecDepth 100000 in
theorem sp_with1 (B d : Nat) (p q z : Nd) (ih : PrintAt B d) (t v : ByteArray) (names : List ByteArray) (tru asg : Bool) (decl : List Nd) (num : Int) (ex : Bool) (w : World) (A1 A2 A3 A4 : Option Addr) (c1 c2 c3 c4 : Nat) (h3 : Row w (· < B) 12 (SN w (· < B) d) (.slice A3 2 c3) [p, q]) (sp : Sm d p) (hpp : Shp d p) (sq : Sm d q) (hpq : Shp d q) (h4 : Row w (· < B) 12 (SN w (· < B) d) (.slice A4 1 c4) [z]) (sz : Sm d z) (hpz : Shp d z) (hs : Sm (d + 1) (.mk 18 t v names tru asg decl [p, q] [z] true num ex)) (hp : Shp (d + 1) (.mk 18 t v names tru asg decl [p, q] [z] true num ex)) (hB : B ≤ w.heap.size) :
    Calls Tryz.prog 9 #[.agg #[.int .i64 18, .string t, .string v, .slice A1 names.length c1, .bool tru, .bool asg, .slice A2 decl.length c2, .slice A3 2 c3, .slice A4 1 c4, .bool true, .int .i64 num, .bool ex]] w (SpPost w (pr (d + 1) (.mk 18 t v names tru asg decl [p, q] [z] true num ex))) := by
  have hlen := pr_small hs hp
  have e0 : pr (d + 1) (.mk 18 t v names tru asg decl [p, q] [z] true num ex) = lbr ++ wordD 18 ++ [32] ++ pr d p ++ rbr ++ pr d q ++ (lbr ++ [101, 108, 115, 101] ++ rbr ++ pr d z) ++ lbr ++ [101, 110, 100] ++ rbr := by simp [pr, Nd.kind, Nd.text, Nd.names, Nd.kids, Nd.decl, Nd.els, Nd.hasElse, Nd.assign, Nd.tru, firstD, secondD]
  rw [e0] at hlen ⊢
  simp only [List.length_append, List.length_cons, List.length_nil, by'_len, lbr, rbr] at hlen
  have hz0 := size_data (strOf_data (wordD 18))
  have hz1 := size_data (strOf_data (pr d p))
  have hz2 := size_data (strOf_data (pr d q))
  have hz3 := size_data (strOf_data (pr d z))
  obtain ⟨p0, bx, ox, A1x, d1x, A2x, d2x, A3x, d3x, A4x, d4x, l1x, l2x, l3x, l4x, hpk, hAx, hltx, hsnx, hldx⟩ := SN.kid (l := [p, q]) h3 (k := 0) (by simp)
  obtain rfl : p = p0 := hpk
  obtain ⟨p0, bY, oY, A1y, d1y, A2y, d2y, A3y, d3y, A4y, d4y, l1y, l2y, l3y, l4y, hpk, hAy, hlty, hsny, hldy⟩ := SN.kid (l := [p, q]) h3 (k := 1) (by simp)
  obtain rfl : q = p0 := hpk
  obtain ⟨p0, bv, ov, A1v, d1v, A2v, d2v, A3v, d3v, A4v, d4v, l1v, l2v, l3v, l4v, hpk, hAv, hltv, hsnv, hldv⟩ := SN.kid (l := [z]) h4 (k := 0) (by simp)
  obtain rfl : z = p0 := hpk
  subst hAx
  obtain ⟨rfl, rfl⟩ : bx = bY ∧ ox = oY := by injection hAy with h; injection h with h1 h2; exact ⟨h1, h2⟩
  subst hAv
  simp only [Nat.zero_mul, Nat.add_zero] at hldv
  simp only [Nat.zero_mul, Nat.add_zero] at hldx
  simp only [Nat.one_mul] at hldy
  generalize names.length = l1 at *
  generalize decl.length = l2 at *
  have cW : ∀ n os, Calls Tryz.prog 22 #[.int .i64 18] (Sort.grow (redrawn (w.alloc (.cells #[.int .i64 18, .string t, .string v, .slice A1 l1 c1, .bool tru, .bool asg, .slice A2 l2 c2, .slice (some ⟨bx, ox, none⟩) 2 c3, .slice (some ⟨bv, ov, none⟩) 1 c4, .bool true, .int .i64 num, .bool ex] 25)) n) os) fun e w'' => e = .returned (.string (strOf (wordD 18))) ∧ ∃ q : Regrown, w'' = Sort.grow (redrawn (w.alloc (.cells #[.int .i64 18, .string t, .string v, .slice A1 l1 c1, .bool tru, .bool asg, .slice A2 l2 c2, .slice (some ⟨bx, ox, none⟩) 2 c3, .slice (some ⟨bv, ov, none⟩) 1 c4, .bool true, .int .i64 num, .bool ex] 25)) q.d) q.os := fun n os => Calls.regrown_of (Calls.mono (word_any 18 (by decide) _) fun _ _ h => h.det)
  have cP : ∀ n os, Calls Tryz.prog 9 #[.agg #[.int .i64 p.kind, .string p.text, .string p.value, .slice A1x l1x d1x, .bool p.tru, .bool p.assign, .slice A2x l2x d2x, .slice A3x l3x d3x, .slice A4x l4x d4x, .bool p.hasElse, .int .i64 p.num, .bool p.exact]] (Sort.grow (redrawn (w.alloc (.cells #[.int .i64 18, .string t, .string v, .slice A1 l1 c1, .bool tru, .bool asg, .slice A2 l2 c2, .slice (some ⟨bx, ox, none⟩) 2 c3, .slice (some ⟨bv, ov, none⟩) 1 c4, .bool true, .int .i64 num, .bool ex] 25)) n) os) fun e w'' => e = .returned (.string (strOf (pr d p))) ∧ ∃ q : Regrown, w'' = Sort.grow (redrawn (w.alloc (.cells #[.int .i64 18, .string t, .string v, .slice A1 l1 c1, .bool tru, .bool asg, .slice A2 l2 c2, .slice (some ⟨bx, ox, none⟩) 2 c3, .slice (some ⟨bv, ov, none⟩) 1 c4, .bool true, .int .i64 num, .bool ex] 25)) q.d) q.os := fun n os => Calls.regrown_of (Calls.mono (ih [_, _, _, _, _, _, _, _, _, _, _, _] p _ (SN.mono (fun _ h _ => h) (Keeps.of_below (below_gr _ n os)) _ _ _ hsnx) sp hpp (Nat.le_trans hB (below_gr _ n os).size)) fun _ _ h => h.det)
  have cQ : ∀ n os, Calls Tryz.prog 9 #[.agg #[.int .i64 q.kind, .string q.text, .string q.value, .slice A1y l1y d1y, .bool q.tru, .bool q.assign, .slice A2y l2y d2y, .slice A3y l3y d3y, .slice A4y l4y d4y, .bool q.hasElse, .int .i64 q.num, .bool q.exact]] (Sort.grow (redrawn (w.alloc (.cells #[.int .i64 18, .string t, .string v, .slice A1 l1 c1, .bool tru, .bool asg, .slice A2 l2 c2, .slice (some ⟨bx, ox, none⟩) 2 c3, .slice (some ⟨bv, ov, none⟩) 1 c4, .bool true, .int .i64 num, .bool ex] 25)) n) os) fun e w'' => e = .returned (.string (strOf (pr d q))) ∧ ∃ q : Regrown, w'' = Sort.grow (redrawn (w.alloc (.cells #[.int .i64 18, .string t, .string v, .slice A1 l1 c1, .bool tru, .bool asg, .slice A2 l2 c2, .slice (some ⟨bx, ox, none⟩) 2 c3, .slice (some ⟨bv, ov, none⟩) 1 c4, .bool true, .int .i64 num, .bool ex] 25)) q.d) q.os := fun n os => Calls.regrown_of (Calls.mono (ih [_, _, _, _, _, _, _, _, _, _, _, _] q _ (SN.mono (fun _ h _ => h) (Keeps.of_below (below_gr _ n os)) _ _ _ hsny) sq hpq (Nat.le_trans hB (below_gr _ n os).size)) fun _ _ h => h.det)
  have ldx : ∀ n os, (LdS (.pointer (some ⟨bx, ox, none⟩))).run Tryz.prog (Sort.grow (redrawn (w.alloc (.cells #[.int .i64 18, .string t, .string v, .slice A1 l1 c1, .bool tru, .bool asg, .slice A2 l2 c2, .slice (some ⟨bx, ox, none⟩) 2 c3, .slice (some ⟨bv, ov, none⟩) 1 c4, .bool true, .int .i64 num, .bool ex] 25)) n) os) = .ok (.agg #[.int .i64 p.kind, .string p.text, .string p.value, .slice A1x l1x d1x, .bool p.tru, .bool p.assign, .slice A2x l2x d2x, .slice A3x l3x d3x, .slice A4x l4x d4x, .bool p.hasElse, .int .i64 p.num, .bool p.exact]) (Sort.grow (redrawn (w.alloc (.cells #[.int .i64 18, .string t, .string v, .slice A1 l1 c1, .bool tru, .bool asg, .slice A2 l2 c2, .slice (some ⟨bx, ox, none⟩) 2 c3, .slice (some ⟨bv, ov, none⟩) 1 c4, .bool true, .int .i64 num, .bool ex] 25)) n) os) := fun n os => hldx _ (below_gr _ n os)
  have ldy : ∀ n os, (LdS (.pointer (some ⟨bx, ox + 12, none⟩))).run Tryz.prog (Sort.grow (redrawn (w.alloc (.cells #[.int .i64 18, .string t, .string v, .slice A1 l1 c1, .bool tru, .bool asg, .slice A2 l2 c2, .slice (some ⟨bx, ox, none⟩) 2 c3, .slice (some ⟨bv, ov, none⟩) 1 c4, .bool true, .int .i64 num, .bool ex] 25)) n) os) = .ok (.agg #[.int .i64 q.kind, .string q.text, .string q.value, .slice A1y l1y d1y, .bool q.tru, .bool q.assign, .slice A2y l2y d2y, .slice A3y l3y d3y, .slice A4y l4y d4y, .bool q.hasElse, .int .i64 q.num, .bool q.exact]) (Sort.grow (redrawn (w.alloc (.cells #[.int .i64 18, .string t, .string v, .slice A1 l1 c1, .bool tru, .bool asg, .slice A2 l2 c2, .slice (some ⟨bx, ox, none⟩) 2 c3, .slice (some ⟨bv, ov, none⟩) 1 c4, .bool true, .int .i64 num, .bool ex] 25)) n) os) := fun n os => hldy _ (below_gr _ n os)
  have k0 : ∀ n os, (Sort.grow (redrawn (w.alloc (.cells #[.int .i64 18, .string t, .string v, .slice A1 l1 c1, .bool tru, .bool asg, .slice A2 l2 c2, .slice (some ⟨bx, ox, none⟩) 2 c3, .slice (some ⟨bv, ov, none⟩) 1 c4, .bool true, .int .i64 num, .bool ex] 25)) n) os).cell? ⟨w.heap.size, 0, none⟩ = some (.int .i64 18) := fun n os => cell_regrown (World.cell?_alloc_at _ _ _ _ rfl) n os
  have k7 : ∀ n os, (Sort.grow (redrawn (w.alloc (.cells #[.int .i64 18, .string t, .string v, .slice A1 l1 c1, .bool tru, .bool asg, .slice A2 l2 c2, .slice (some ⟨bx, ox, none⟩) 2 c3, .slice (some ⟨bv, ov, none⟩) 1 c4, .bool true, .int .i64 num, .bool ex] 25)) n) os).cell? ⟨w.heap.size, 7, none⟩ = some (.slice (some ⟨bx, ox, none⟩) 2 c3) := fun n os => cell_regrown (World.cell?_alloc_at _ _ _ _ rfl) n os
  have k9 : ∀ n os, (Sort.grow (redrawn (w.alloc (.cells #[.int .i64 18, .string t, .string v, .slice A1 l1 c1, .bool tru, .bool asg, .slice A2 l2 c2, .slice (some ⟨bx, ox, none⟩) 2 c3, .slice (some ⟨bv, ov, none⟩) 1 c4, .bool true, .int .i64 num, .bool ex] 25)) n) os).cell? ⟨w.heap.size, 9, none⟩ = some (.bool true) := fun n os => cell_regrown (World.cell?_alloc_at _ _ _ _ rfl) n os
  have cZ : ∀ n os, Calls Tryz.prog 9 #[.agg #[.int .i64 z.kind, .string z.text, .string z.value, .slice A1v l1v d1v, .bool z.tru, .bool z.assign, .slice A2v l2v d2v, .slice A3v l3v d3v, .slice A4v l4v d4v, .bool z.hasElse, .int .i64 z.num, .bool z.exact]] (Sort.grow (redrawn (w.alloc (.cells #[.int .i64 18, .string t, .string v, .slice A1 l1 c1, .bool tru, .bool asg, .slice A2 l2 c2, .slice (some ⟨bx, ox, none⟩) 2 c3, .slice (some ⟨bv, ov, none⟩) 1 c4, .bool true, .int .i64 num, .bool ex] 25)) n) os) fun e w'' => e = .returned (.string (strOf (pr d z))) ∧ Below (Sort.grow (redrawn (w.alloc (.cells #[.int .i64 18, .string t, .string v, .slice A1 l1 c1, .bool tru, .bool asg, .slice A2 l2 c2, .slice (some ⟨bx, ox, none⟩) 2 c3, .slice (some ⟨bv, ov, none⟩) 1 c4, .bool true, .int .i64 num, .bool ex] 25)) n) os).heap.size (Sort.grow (redrawn (w.alloc (.cells #[.int .i64 18, .string t, .string v, .slice A1 l1 c1, .bool tru, .bool asg, .slice A2 l2 c2, .slice (some ⟨bx, ox, none⟩) 2 c3, .slice (some ⟨bv, ov, none⟩) 1 c4, .bool true, .int .i64 num, .bool ex] 25)) n) os) w'' := fun n os => (Calls.mono (ih [_, _, _, _, _, _, _, _, _, _, _, _] z _ (SN.mono (fun _ h _ => h) (Keeps.of_below (below_gr _ n os)) _ _ _ hsnv) sz hpz (Nat.le_trans hB (below_gr _ n os).size)) fun _ _ h => h.det)
  have ldv : ∀ n os, (LdS (.pointer (some ⟨bv, ov, none⟩))).run Tryz.prog (Sort.grow (redrawn (w.alloc (.cells #[.int .i64 18, .string t, .string v, .slice A1 l1 c1, .bool tru, .bool asg, .slice A2 l2 c2, .slice (some ⟨bx, ox, none⟩) 2 c3, .slice (some ⟨bv, ov, none⟩) 1 c4, .bool true, .int .i64 num, .bool ex] 25)) n) os) = .ok (.agg #[.int .i64 z.kind, .string z.text, .string z.value, .slice A1v l1v d1v, .bool z.tru, .bool z.assign, .slice A2v l2v d2v, .slice A3v l3v d3v, .slice A4v l4v d4v, .bool z.hasElse, .int .i64 z.num, .bool z.exact]) (Sort.grow (redrawn (w.alloc (.cells #[.int .i64 18, .string t, .string v, .slice A1 l1 c1, .bool tru, .bool asg, .slice A2 l2 c2, .slice (some ⟨bx, ox, none⟩) 2 c3, .slice (some ⟨bv, ov, none⟩) 1 c4, .bool true, .int .i64 num, .bool ex] 25)) n) os) := fun n os => hldv _ (below_gr _ n os)
  have k8 : ∀ n os, (Sort.grow (redrawn (w.alloc (.cells #[.int .i64 18, .string t, .string v, .slice A1 l1 c1, .bool tru, .bool asg, .slice A2 l2 c2, .slice (some ⟨bx, ox, none⟩) 2 c3, .slice (some ⟨bv, ov, none⟩) 1 c4, .bool true, .int .i64 num, .bool ex] 25)) n) os).cell? ⟨w.heap.size, 8, none⟩ = some (.slice (some ⟨bv, ov, none⟩) 1 c4) := fun n os => cell_regrown (World.cell?_alloc_at _ _ _ _ rfl) n os
  have hd0 := strOf_data (wordD 18)
  have hd1 := strOf_data (pr d p)
  have hd2 := strOf_data (pr d q)
  have hd3 := strOf_data (pr d z)
  generalize hgw : strOf (wordD 18) = s0 at *
  generalize hgp : strOf (pr d p) = s1 at *
  generalize hgq : strOf (pr d q) = s2 at *
  generalize hgz : strOf (pr d z) = s3 at *
  have HD0 := Lib.hid hd0
  have HD1 := Lib.hid hd1
  have HD2 := Lib.hid hd2
  have HD3 := Lib.hid hd3
  have hz3' : s3.size ≤ 41943040 := by omega
  have hz2' : 2 + s0.size + 1 + s1.size + 2 + s2.size ≤ 41943040 := by omega
  have n1 : ¬ 9223372036854775807 < 2 + s0.size := by omega
  have n2 : ¬ 9223372036854775807 < 2 + s0.size + 1 := by omega
  have n3 : ¬ 9223372036854775807 < 2 + s0.size + 1 + s1.size := by omega
  have n4 : ¬ 9223372036854775807 < 2 + s0.size + 1 + s1.size + 2 := by omega
  have n5 : ¬ 9223372036854775807 < 2 + s0.size + 1 + s1.size + 2 + s2.size := by omega
  clear hs hp e0 hlen ih sp hpp sq hpq h3 hsnx hldx hltx hsny hldy hlty hAy hd0 hd1 hd2 hz0 hz1 hz2 hgw hgp hgq h4 sz hpz hsnv hldv hltv hd3 hz3 hgz
  have CZ := Lib.hid cZ
  clear cZ
  go_enter Tryz.func9, Tryz.ntmps9
  go_wp2_with fail
  refine wp_region_quiet_below (by kernel_rfl) (by kernel_rfl) ?_
  repeat (quiet_step (first | (go_at_call 22; exact cW _ _) | (go_at_call_of 9 A1x; exact cP _ _) | (go_at_call_of 9 A1y; exact cQ _ _)))
  refine wpQuiet_nil ?_
  intro _ hw'
  obtain ⟨⟨dq, osq⟩, hw''⟩ := hw'
  subst hw''
  clear n1 n2 n3 n4 n5 cW cP cQ
  go_wp2_with fail
  refine Calls.mono (CZ.out _ _) ?_
  rintro e w2 ⟨rfl, hb⟩
  have HB := Lib.hid (below_trans (below_gr _ dq osq) hb)
  clear hb
  go_wp2
  go_ret
  exact ⟨_, rfl, by simp only [append_data, HD0.out, HD1.out, HD2.out, HD3.out]; simp [lbr, rbr, wordD], HB.out⟩

end Go.Proofs.YtiogfkpclkkoaaaGreat
