/-
  The walk of laws.givens, and the two joined.
-/
import Derived.Test.YtiogfkpclkkoaaaGreatGiven
import Derived.OwnWalk
import Derived.Maps.AppendAt
set_option linter.unusedVariables false
set_option linter.unusedSimpArgs false
namespace Go.Proofs.YtiogfkpclkkoaaaGreat
open Go.RowKit

theorem Tryz.info33 : (Tryz.prog.info? 33).map (fun i => (i.zero, i.size, i.bytes)) = some (some (.agg #[.int .i64 0, .string ⟨#[]⟩, .string ⟨#[]⟩, .slice none 0 0, .bool false, .bool false, .slice none 0 0, .slice none 0 0, .slice none 0 0, .bool false, .bool false, .bool false, .bool false, .bool false, .int .i64 0, .int .u64 0, .int .u64 0]), 17, 184) := by kernel_rfl

theorem cell_of_heap' {w : World} {b : Nat} {cs : Array Value} {T : TypeId} {fr : Nat × Nat} (hb : w.heap[b]? = some (.cells cs T fr)) {j : Nat} : w.cell? ⟨b, j, none⟩ = cs[j]? := by simp [World.cell?, hb]

theorem own_later {w w' : World} {base size n : Nat} {e : TypeId} {v : Value} {xs : List Value} (h : w.ownsRow base e size v n xs) (hb : Below w.heap.size w w') : w'.ownsRow base e size v n xs := by
  obtain ⟨h1, h2 | ⟨g, cap, cur, hv, hg, hh, r⟩⟩ := h
  · exact ⟨h1, Or.inl h2⟩
  · exact ⟨h1, Or.inr ⟨g, cap, cur, hv, hg, (hb.block g (lt_of_block hh)).trans hh, r⟩⟩
theorem own_lt {w : World} {base size n : Nat} {e : TypeId} {v : Value} {xs : List Value} (h : w.ownsRow base e size v n xs) {g : Nat} (hg : v.ownBlock = some g) : base ≤ g ∧ g < w.heap.size := by
  obtain ⟨h1, ⟨rfl, _⟩ | ⟨g', cap, cur, rfl, hg', hh, r⟩⟩ := h
  · simp [Value.ownBlock] at hg
  · have : g' = g := by simpa [Value.ownBlock] using hg
    subst this
    exact ⟨hg', lt_of_block hh⟩
theorem news_at (w : World) (cs : List Value) (T : TypeId) : ∀ j u, cs[j]? = some u → (w.alloc (.cells cs.toArray T)).cell? ((⟨w.heap.size, 0, none⟩ : Addr).add j) = some u := by
  intro j u hu
  have hadd : (⟨w.heap.size, 0, none⟩ : Addr).add j = ⟨w.heap.size, j, none⟩ := by unfold Addr.add; split <;> simp_all
  rw [hadd, cell_of_heap' (heap_alloc_new w _)]
  simpa using hu
/-- Behind an append onto an owned row: what was there, that row aside, is there. -/
theorem keeps_grown {w w' : World} {row : Option Nat} (hg : w.grownBy w' row) (S : Nat → Prop) : Keeps (fun b => S b ∧ some b ≠ row) w w' := Keeps.of_blocks fun b hb hl => hg.block b hl hb.2

/-- The cells xs (17 an element) read, so far, as the first k of l: none of what they lead to lies in the block ob. -/
def Firsts (w : World) (S : Nat → Prop) (ob : Option Nat) (d k : Nat) (xs : List Value) (l : List Nd) : Prop :=
  ∀ i, (h : i < l.length) → i < k → ∃ cs, IN w (fun b => S b ∧ some b ≠ ob) d cs l[i] ∧ (xs.drop (i * 17)).take 17 = cs

theorem Firsts.zero (w : World) (S : Nat → Prop) (ob : Option Nat) (d : Nat) (xs : List Value) (l : List Nd) : Firsts w S ob d 0 xs l := fun _ _ h => absurd h (by omega)

theorem Firsts.keep {w w' : World} {S S' : Nat → Prop} {ob ob' : Option Nat} {d k : Nat} {xs : List Value} {l : List Nd} (h : Firsts w S ob d k xs l)
    (hS : ∀ b, S b → some b ≠ ob → b < w.heap.size → S' b ∧ some b ≠ ob') (hk : Keeps (fun b => S b ∧ some b ≠ ob) w w') : Firsts w' S' ob' d k xs l := fun i hi hlt => by
  obtain ⟨cs, h1, h2⟩ := h i hi hlt
  exact ⟨cs, IN.mono (fun b hb hl => hS b hb.1 hb.2 hl) hk d cs _ h1, h2⟩

theorem Firsts.succ {w : World} {S : Nat → Prop} {ob : Option Nat} {d k : Nat} {xs cs : List Value} {l : List Nd} (h : Firsts w S ob d k xs l) (hx : xs.length = k * 17) (hk : k < l.length)
    (hc : IN w (fun b => S b ∧ some b ≠ ob) d cs l[k]) : Firsts w S ob d (k + 1) (xs ++ cs) l := fun i hi hlt => by
  have hl := hc.length
  rcases Nat.lt_or_ge i k with h' | h'
  · obtain ⟨cs', h1, h2⟩ := h i hi h'
    refine ⟨cs', h1, ?_⟩
    rw [List.drop_append_of_le_length (by omega), List.take_append_of_le_length (by simp; omega)]
    exact h2
  · obtain rfl : i = k := by omega
    refine ⟨cs, hc, ?_⟩
    rw [← hx, List.drop_left]
    exact List.take_of_length_le (by omega)

/-- An owned row, all of whose elements read, reads as the list. -/
theorem Firsts.row {w : World} {S S' : Nat → Prop} {base d n : Nat} {e : TypeId} {v : Value} {xs : List Value} {l : List Nd} (h : Firsts w S v.ownBlock d n xs l) (hn : n = l.length)
    (hown : w.ownsRow base e 17 v n xs) (hS : ∀ b, S b → S' b) (hb : ∀ b, base ≤ b → S' b) : Row w S' 17 (IN w S' d) v l := by
  subst hn
  obtain ⟨hlen, ⟨rfl, h0⟩ | ⟨g, cap, cur, rfl, hg, hh, hnc, hcap, hsz, htake⟩⟩ := hown
  · exact ⟨none, 0, by rw [h0], fun hp => absurd hp (by omega)⟩
  · refine ⟨_, cap, rfl, fun hp => ⟨g, 0, rfl, hb g hg, lt_of_block hh, fun i hi => ?_⟩⟩
    obtain ⟨cs, h1, h2⟩ := h i hi hi
    refine ⟨cs, IN.mono (fun b hb _ => hS b hb.1) (Keeps.refl _ _) d cs _ h1, fun j hj => ?_⟩
    have hl := h1.length
    have e1 : cs[j]? = xs[i * 17 + j]? := by
      rw [← h2, List.getElem?_take_of_lt (by omega), List.getElem?_drop]
    have e2 : xs[i * 17 + j]? = cur[i * 17 + j]? := by
      rw [← htake, List.getElem?_take_of_lt (by omega)]
      simp
    rw [cell_of_heap' hh, Nat.zero_add, ← e2, ← e1, List.getElem?_eq_getElem hj]

set_option maxHeartbeats 1000000 in
set_option maxRecDepth 100000 in
theorem givens_step (B d : Nat) (ih : ∀ cs n w, SN w (· < B) d cs n → Sm d n → B ≤ w.heap.size → Calls Tryz.prog 8 #[.agg cs.toArray] w (GivenPost w B d n))
    (l : List Nd) (v : Value) (w : World) (h : Sns w B d v l) (hs : Sms d l) (hB : B ≤ w.heap.size) : Calls Tryz.prog 18 #[v] w (GivensPost w B d l) := by
  obtain ⟨i0, hi, hz0, hz1, hz2⟩ := info_parts Tryz.info33
  obtain ⟨A, c, rfl⟩ := Row.form h
  have y := hs.1
  have IH := Lib.hid ih
  have H := Lib.hid h
  have HS := Lib.hid hs
  clear ih h hs
  generalize hm : l.length = m at *
  have M := Lib.hid hm
  clear hm
  go_enter Tryz.func18, Tryz.ntmps18
  go_wp2_with fail
  go_loopw [3, 8] (fun v i wr => ∃ k : Nat, k ≤ m ∧ i = .int .i64 k ∧ ∃ xs, wr.ownsRow w.heap.size 33 17 v k xs ∧ Firsts wr (OldNew B w.heap.size) v.ownBlock d k xs l ∧ Below w.heap.size w wr) (fun _ i _ => m - (intOf i).toNat)
  case atStart => exact ⟨0, Nat.zero_le _, rfl, [], ⟨by simp, Or.inl ⟨rfl, rfl⟩⟩, .zero _ _ _ _ _ _, Below.refl _ _⟩
  case round =>
    obtain ⟨k, hk, rfl, xs, hown, hfst, hbl⟩ := hrel
    have OWN := Lib.hid hown
    have FST := Lib.hid hfst
    have BL := Lib.hid hbl
    clear hown hfst hbl
    by_cases hlt : k < m
    · have hlt' : k < l.length := by rw [M.out]; exact hlt
      have hr : Sns wr B d (.slice A m c) l := H.out.later BL.out
      rw [← M.out] at hr
      obtain ⟨p, b', o', B1, e1, B2, e2, B3, e3, B4, e4, hp, rfl, _, _, hsn, f0, f1, f2, f3, f4, f5, f6, f7, f8, f9, f10, f11⟩ := SN.at hr hlt'
      have hsm : Sm d l[k] := HS.out.2 _ (List.getElem_mem _)
      rw [hp] at hsm
      have P := Lib.hid hp
      have SNj := Lib.hid hsn
      have SMj := Lib.hid hsm
      clear hr hsn hsm hp
      generalize p.names.length = l1 at *
      generalize p.decl.length = l2 at *
      generalize p.kids.length = l3 at *
      generalize p.els.length = l4 at *
      go_wp2_with (first
        | (go_at_call 8; refine Calls.mono (IH.out [_, _, _, _, _, _, _, _, _, _, _, _] p _ ?_ SMj.out ?_) ?_; exact (SN.mono (fun _ h _ => h) (Keeps.of_below (below_new _ _)) _ _ _ SNj.out); (have := BL.out.size; simp only [World.size_alloc]; omega); rintro e w1 ⟨cs, rfl, hin, hb⟩; obtain ⟨a1, g1, a2, g2, a3, g3, a4, g4, rfl⟩ := hin.form; replace hin := Lib.hid hin)
        | (at_builtin
           refine wpList_append_own_at _ rfl (.tmp 12) (.tmp 15) 28 rfl w.heap.size 33 i0 _ 17 184 Tryz.underlying28 hi hz0 hz1 hz2 rfl (by decide) u3 k xs rfl ((own_later OWN.out (below_alloc hb)).alloc _) ⟨w1.heap.size, 0, none⟩ 1 1 [_, _, _, _, _, _, _, _, _, _, _, _, _, _, _, _, _] rfl rfl (news_at w1 _ _) ?c2 ?c3 ?c4 ?c5 ?_
           case c2 => simp [Value.oneCell']
           case c3 => unfold maxLen; omega
           case c4 => omega
           case c5 => (have h1 := BL.out.size; have h2 := hb.size; simp only [World.size_alloc] at *; omega)
           intro v' w2 hown2 hgr hnil hat))
      go_roundw
      case rel =>
        have hp := P.out
        have hgb : ∀ b, OldNew B (wr.alloc (.cells #[.int .i64 p.kind, .string p.text, .string p.value, .slice B1 l1 e1, .bool p.tru, .bool p.assign, .slice B2 l2 e2, .slice B3 l3 e3, .slice B4 l4 e4, .bool p.hasElse, .int .i64 p.num, .bool p.exact] 25)).heap.size b → OldNew B w.heap.size b ∧ some b ≠ u3.ownBlock := by
          intro b hb'
          have h1 := BL.out.size
          refine ⟨hb'.imp id (fun h => by simp only [World.size_alloc] at h; omega), fun he => ?_⟩
          have := own_lt OWN.out he.symm
          rcases hb' with hb' | hb'
          · omega
          · simp only [World.size_alloc] at hb'; omega
        obtain ⟨wn, hwn⟩ : ∃ wn, wn = w1.alloc (.cells #[.int .i64 p.kind, .string p.text, .string p.value, .slice a1 p.names.length g1, .bool p.tru, .bool p.assign, .slice a2 p.decl.length g2, .slice a3 p.kids.length g3, .slice a4 p.els.length g4, .bool p.hasElse, .bool false, .bool false, .bool false, .bool false, .int .i64 0, .int .u64 0, .int .u64 0] 33) := ⟨_, rfl⟩
        have bn : Below w1.heap.size w1 wn := by rw [hwn]; exact below_new _ _
        have hgr' : wn.grownBy w2 u3.ownBlock := by rw [hwn]; exact hgr
        have hat' : v'.ownBlock = u3.ownBlock ∨ v'.ownBlock = some wn.heap.size := by rw [hwn]; exact hat
        have f1 := (FST.out.keep (S' := OldNew B w.heap.size) (ob' := u3.ownBlock) (fun b hb h _ => ⟨hb, h⟩) (Keeps.of_below (below_trans (below_alloc hb) bn))).succ (OWN.out.1) hlt' (by rw [hp]; exact IN.mono (fun b h _ => hgb b h) (Keeps.of_below bn) _ _ _ hin.out)
        refine ⟨k + 1, by omega, by go_num, _, hown2, f1.keep (fun b hb h hl => ⟨hb, ?_⟩) (keeps_grown hgr' _), ?_⟩
        · rcases hat' with hat | hat
          · rw [hat]; exact h
          · rw [hat]; intro he; injection he with he; omega
        · exact BL.out.trans (((below_trans (below_alloc hb) bn).mono BL.out.size).grown hgr' (by have h1 := BL.out.size; have h2 := (below_trans (below_alloc hb) bn).size; omega) (fun g hg => (own_lt OWN.out hg).1))
      case measure => simp [intOf]; omega
    · have hk' : k = m := by omega
      subst hk'
      go_wp2
      go_ret
      exact ⟨_, rfl, FST.out.row M.out.symm OWN.out (fun _ h => h) (fun b h => Or.inr h), BL.out⟩

/-- laws.given and laws.givens at every node, every list. -/
theorem given_any (B : Nat) : ∀ (d : Nat) cs n w, SN w (· < B) d cs n → Sm d n → B ≤ w.heap.size → Calls Tryz.prog 8 #[.agg cs.toArray] w (GivenPost w B d n)
  | 0, _, _, _, h, _, _ => h.elim
  | d + 1, cs, n, w, h, hs, hB => by
    have ih := givens_step B d (given_any B d)
    obtain ⟨s2, s3, s4, _⟩ := hs.parts h
    obtain ⟨nv, dv, kv, ev, rfl, h1, h2, h3, h4⟩ := h
    cases n with
    | mk k t v names tru asg decl kids els b3 num ex => exact given_step B d ih k t v names tru asg decl kids els b3 num ex w nv dv kv ev h1 h2 h3 h4 s2 s3 s4 hB

end Go.Proofs.YtiogfkpclkkoaaaGreat
