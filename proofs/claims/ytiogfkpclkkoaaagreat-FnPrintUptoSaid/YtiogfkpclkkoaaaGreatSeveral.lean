/-
  The walk of impl.several.
-/
import Derived.Test.YtiogfkpclkkoaaaGreatBuiltA
import Derived.Test.YtiogfkpclkkoaaaGreatGivens
import Derived.OwnWalk
import Derived.Maps.AppendAt
import Derived.Test.YtiogfkpclkkoaaaGreatWide
set_option linter.unusedVariables false
set_option linter.unusedSimpArgs false
namespace Go.Proofs.YtiogfkpclkkoaaaGreat
open Go.RowKit

theorem Tryz.info41 : (Tryz.prog.info? 41).map (fun i => (i.zero, i.size, i.bytes)) = some (some .nilIface, 1, 16) := by kernel_rfl

def SeveralPost (w : World) (B d : Nat) (l : List Nd) (e : Ending) (w' : World) : Prop :=
  ∃ v, e = .returned (.tuple #[v, .bool true]) ∧ RowP w' (OldNew B w.heap.size) 41 ifc (PN w' w.heap.size (OldNew B w.heap.size) TrNil d) v l ∧ Below w.heap.size w w'

/-- The cells xs are, so far, the first k nodes: none of what they lead to lies in the block ob. -/
def FirstsP (w : World) (base : Nat) (S : Nat → Prop) (ob : Option Nat) (d k : Nat) (f : Nd → Nat → Value) (xs : List Value) (l : List Nd) : Prop :=
  ∀ i, (h : i < l.length) → i < k → ∃ b, PN w base (fun b => S b ∧ some b ≠ ob) TrNil d b l[i] ∧ xs[i]? = some (f l[i] b)

theorem FirstsP.zero (w : World) (base : Nat) (S : Nat → Prop) (ob : Option Nat) (d : Nat) (f : Nd → Nat → Value) (xs : List Value) (l : List Nd) : FirstsP w base S ob d 0 f xs l := fun _ _ h => absurd h (by omega)
theorem FirstsP.keep {w w' : World} {base : Nat} {S S' : Nat → Prop} {ob ob' : Option Nat} {d k : Nat} {f : Nd → Nat → Value} {xs : List Value} {l : List Nd} (h : FirstsP w base S ob d k f xs l)
    (hS : ∀ b, S b → some b ≠ ob → b < w.heap.size → S' b ∧ some b ≠ ob') (hk : Stays (fun b => S b ∧ some b ≠ ob) w w') : FirstsP w' base S' ob' d k f xs l := fun i hi hlt => by
  obtain ⟨b, h1, h2⟩ := h i hi hlt
  exact ⟨b, PN.mono (Nat.le_refl _) (fun b hb hl => hS b hb.1 hb.2 hl) hk d b _ h1, h2⟩
theorem FirstsP.succ {w : World} {base : Nat} {S : Nat → Prop} {ob : Option Nat} {d k b : Nat} {f : Nd → Nat → Value} {xs : List Value} {l : List Nd} (h : FirstsP w base S ob d k f xs l) (hx : xs.length = k * 1) (hk : k < l.length)
    (hc : PN w base (fun b => S b ∧ some b ≠ ob) TrNil d b l[k]) : FirstsP w base S ob d (k + 1) f (xs ++ [f l[k] b]) l := fun i hi hlt => by
  rcases Nat.lt_or_ge i k with h' | h'
  · obtain ⟨b', h1, h2⟩ := h i hi h'
    exact ⟨b', h1, by rw [List.getElem?_append_left (by omega)]; exact h2⟩
  · obtain rfl : i = k := by omega
    exact ⟨b, hc, by rw [List.getElem?_append_right (by omega), hx]; simp⟩
theorem FirstsP.row {w : World} {base base' d n : Nat} {S S' : Nat → Prop} {E : TypeId} {f : Nd → Nat → Value} {v : Value} {xs : List Value} {l : List Nd} (h : FirstsP w base S v.ownBlock d n f xs l) (hn : n = l.length)
    (hown : w.ownsRow base' E 1 v n xs) (hS : ∀ b, S b → S' b) (hb : ∀ b, base' ≤ b → S' b) : RowP w S' E f (PN w base S' TrNil d) v l := by
  subst hn
  obtain ⟨hlen, ⟨rfl, h0⟩ | ⟨g, cap, cur, rfl, hg, hh, hnc, hcap, hsz, htake⟩⟩ := hown
  · exact Or.inl ⟨rfl, List.eq_nil_of_length_eq_zero h0⟩
  · refine Or.inr ⟨g, cap, cur, rfl, hb g hg, hh, fun i hi => ?_⟩
    obtain ⟨b, h1, h2⟩ := h i hi hi
    refine ⟨b, ?_, PN.mono (Nat.le_refl _) (fun b hb _ => hS b hb.1) (fun _ _ _ => rfl) d b _ h1⟩
    rw [← htake, List.getElem?_take_of_lt (by omega)] at h2
    simpa using h2

attribute [local go_sem ↓] stN ldN
attribute [local go_sem] run_stN run_ldN_new
theorem stays_grown {w w' : World} {row : Option Nat} (hg : w.grownBy w' row) (S : Nat → Prop) : Stays (fun b => S b ∧ some b ≠ row) w w' := fun b hb hl => hg.block b hl hb.2

set_option maxHeartbeats 1000000 in
set_option maxRecDepth 100000 in
theorem several_step (B d : Nat) (ih : ∀ cs n w, IN w (· < B) d cs n → Sm d n → Shp d n → B ≤ w.heap.size → Calls Tryz.prog 16 #[.agg cs.toArray] w (BuiltPost w B d n))
    (l : List Nd) (v : Value) (w : World) (h : Row w (· < B) 17 (IN w (· < B) d) v l) (hs : Sms d l) (hsh : ∀ p ∈ l, Shp d p) (hB : B ≤ w.heap.size) : Calls Tryz.prog 26 #[v] w (SeveralPost w B d l) := by
  obtain ⟨i0, hi, hz0, hz1, hz2⟩ := info_parts Tryz.info41
  obtain ⟨A, c, rfl⟩ := Row.form h
  have y := hs.1
  have IH := Lib.hid ih
  have H := Lib.hid h
  have HS := Lib.hid hs
  have SH := Lib.hid hsh
  clear ih h hs hsh
  generalize hm : l.length = m at *
  have M := Lib.hid hm
  clear hm
  go_enter Tryz.func26, Tryz.ntmps26
  go_wp2_with fail
  go_loopw [4, 11] (fun v i wr => ∃ k : Nat, k ≤ m ∧ i = .int .i64 k ∧ ∃ xs, wr.ownsRow w.heap.size 41 1 v k xs ∧ FirstsP wr w.heap.size (OldNew B w.heap.size) v.ownBlock d k ifc xs l ∧ Below w.heap.size w wr) (fun _ i _ => m - (intOf i).toNat)
  case atStart => exact ⟨0, Nat.zero_le _, rfl, [], ⟨by simp, Or.inl ⟨rfl, rfl⟩⟩, .zero _ _ _ _ _ _ _ _, Below.refl _ _⟩
  case round =>
    obtain ⟨k, hk, rfl, xs, hown, hfst, hbl⟩ := hrel
    have OWN := Lib.hid hown
    have FST := Lib.hid hfst
    have BL := Lib.hid hbl
    clear hown hfst hbl
    by_cases hlt : k < m
    · have hlt' : k < l.length := by rw [M.out]; exact hlt
      have hr : Row wr (· < B) 17 (IN wr (· < B) d) (.slice A m c) l := H.out.mono (fun cs a _ => IN.mono (fun _ h _ => h) (Keeps.of_below BL.out) d cs a) (fun _ h _ => h) (Keeps.of_below BL.out)
      rw [← M.out] at hr
      obtain ⟨p, b', o', B1, e1, B2, e2, B3, e3, B4, e4, hp, rfl, _, _, hsn, _, hld⟩ := IN.ld hr hlt'
      have hsm : Sm d l[k] := HS.out.2 _ (List.getElem_mem _)
      have hsp : Shp d l[k] := SH.out _ (List.getElem_mem _)
      rw [hp] at hsm hsp
      have P := Lib.hid hp
      have INj := Lib.hid hsn
      have SMj := Lib.hid hsm
      have SHj := Lib.hid hsp
      clear hr hsn hsm hp hsp
      generalize p.names.length = l1 at *
      generalize p.decl.length = l2 at *
      generalize p.kids.length = l3 at *
      generalize p.els.length = l4 at *
      go_wp2_with (first
        | (go_at_call 16; refine Calls.mono (IH.out [_, _, _, _, _, _, _, _, _, _, _, _, _, _, _, _, _] p _ ?_ SMj.out SHj.out ?_) ?_; exact (IN.mono (fun _ h _ => h) (Keeps.of_below (below_new _ _)) _ _ _ INj.out); (have := BL.out.size; simp only [World.size_alloc]; omega); rintro e w1 ⟨bq, rfl, hin, hb⟩; replace hin := Lib.hid hin; unfold ifc; generalize hT : ptrT p.kind = T; have TT := Lib.hid hT; clear hT)
        | (at_builtin
           refine wpList_append_own_at _ rfl (.tmp 22) (.tmp 24) 100 rfl w.heap.size 41 i0 _ 1 16 Tryz.underlying100 hi hz0 hz1 hz2 rfl (by decide) u4 k xs rfl ((own_later OWN.out (below_alloc hb)).alloc _) ⟨w1.heap.size, 0, none⟩ 1 1 [.iface T (.pointer (some ⟨bq, 0, none⟩))] rfl rfl (news_at w1 _ _) ?c2 ?c3 ?c4 ?c5 ?_
           case c2 => simp [Value.oneCell']
           case c3 => unfold maxLen; omega
           case c4 => omega
           case c5 => (have h1 := BL.out.size; have h2 := hb.size; simp only [World.size_alloc] at *; omega)
           intro v' w2 hown2 hgr hnil hat))
      go_roundw
      case rel =>
        have hp := P.out
        have hT := TT.out
        obtain ⟨wo2, hwo2⟩ : ∃ wo2 : World, wo2 = wr.alloc (.cells #[.int .i64 p.kind, .string p.text, .string p.value, .slice B1 l1 e1, .bool p.tru, .bool p.assign, .slice B2 l2 e2, .slice B3 l3 e3, .slice B4 l4 e4, .bool p.hasElse, .bool false, .bool false, .bool false, .bool false, .int .i64 0, .int .u64 0, .int .u64 0] 33) := ⟨_, rfl⟩
        have bw : Below wr.heap.size wr wo2 := by rw [hwo2]; exact below_new _ _
        have hb1 : Below wr.heap.size wr w1 := below_alloc hb
        have hin' : PN w1 wo2.heap.size (OldNew B wo2.heap.size) TrNil d bq p := by rw [hwo2]; exact hin.out
        have hgb : ∀ b, OldNew B wo2.heap.size b → OldNew B w.heap.size b ∧ some b ≠ u4.ownBlock := by
          intro b hb'
          have h1 := BL.out.size
          have h3 := bw.size
          refine ⟨hb'.imp id (fun h => by omega), fun he => ?_⟩
          have := own_lt OWN.out he.symm
          rcases hb' with hb' | hb'
          · omega
          · have : wo2.heap.size = wr.heap.size + 1 := by rw [hwo2]; simp
            omega
        obtain ⟨wn, hwn⟩ : ∃ wn, wn = w1.alloc (.cells #[.iface T (.pointer (some ⟨bq, 0, none⟩))] 41) := ⟨_, rfl⟩
        have bn : Below w1.heap.size w1 wn := by rw [hwn]; exact below_new _ _
        have hgr' : wn.grownBy w2 u4.ownBlock := by rw [hwn]; exact hgr
        have hat' : v'.ownBlock = u4.ownBlock ∨ v'.ownBlock = some wn.heap.size := by rw [hwn]; exact hat
        have hb2 := bw.size
        have hb3 := BL.out.size
        have f0 : FirstsP wn w.heap.size (OldNew B w.heap.size) u4.ownBlock d k ifc xs l := FST.out.keep (S' := OldNew B w.heap.size) (ob' := u4.ownBlock) (fun b hb h _ => ⟨hb, h⟩) (Stays.of_below (below_trans hb1 bn))
        have hpn : PN wn w.heap.size (fun b => OldNew B w.heap.size b ∧ some b ≠ u4.ownBlock) TrNil d bq l[k] := by
          rw [hp]
          exact PN.mono (by omega) (fun b h _ => hgb b h) (Stays.of_below bn) _ _ _ hin'
        have f1 := f0.succ (OWN.out.1) hlt' hpn
        have hfe : ifc l[k] bq = .iface T (.pointer (some ⟨bq, 0, none⟩)) := by rw [hp]; unfold ifc; rw [hT]
        rw [hfe] at f1
        refine ⟨k + 1, by omega, by go_num, _, hown2, f1.keep (fun b hb h hl => ⟨hb, ?_⟩) (fun b hb hl => hgr'.block b hl hb.2), ?_⟩
        · rcases hat' with hat | hat
          · rw [hat]; exact h
          · rw [hat]; intro he; injection he with he; omega
        · exact BL.out.trans (((below_trans hb1 bn).mono BL.out.size).grown hgr' (by have h1 := BL.out.size; have h2 := (below_trans hb1 bn).size; omega) (fun g hg => (own_lt OWN.out hg).1))
      case measure => simp [intOf]; omega
    · have hk' : k = m := by omega
      subst hk'
      go_wp2
      go_ret2
      exact ⟨_, rfl, FST.out.row M.out.symm OWN.out (fun _ h => h) (fun b h => Or.inr h), BL.out⟩

end Go.Proofs.YtiogfkpclkkoaaaGreat
