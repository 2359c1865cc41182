/-
  strconv.Quote at printable characters of ASCII without quotes and backslashes: walked in the library's own text (no table is read there).
-/
import Derived.Test.YtiogfkpclkkoaaaGreatWrA
import Derived.BigGuardPart
import Derived.LoopTactic
import Derived.Laws.MakeOwn
import Derived.Deep.LoopGhost
set_option linter.unusedVariables false
set_option linter.unusedSimpArgs false
namespace Go.Proofs.YtiogfkpclkkoaaaGreat
open Go.RowKit

/-- A slice of the call's own that holds the bytes l. -/
def OwnB (B : Nat) (v : Value) (l : List UInt8) (w : World) : Prop := w.ownsRow B 5 1 v l.length (Lib.byteCells l)
def AppPost (B : Nat) (l : List UInt8) (w : World) (e : Ending) (w' : World) : Prop := ∃ A n c, e = .returned (.slice A n c) ∧ OwnB B (.slice A n c) l w' ∧ Below B w w'

theorem OwnB.form {B : Nat} {v : Value} {l : List UInt8} {w : World} (h : OwnB B v l w) : ∃ A c, v = .slice A l.length c := by
  rcases h.2 with ⟨rfl, h0⟩ | ⟨g, cap, cur, rfl, _⟩
  · exact ⟨none, 0, by rw [h0]⟩
  · exact ⟨_, _, rfl⟩

set_option maxHeartbeats 1000000 in
set_option maxRecDepth 100000 in
theorem isPrint_ascii (c : Int) (h1 : 32 ≤ c) (h2 : c ≤ 126) (w : World) : Calls Tryz.prog 124 #[.int .i32 c] w fun e w' => e = .returned (.bool true) ∧ w = w' := by
  go_enter Tryz.func124, Tryz.ntmps124
  go_wp2
  go_ret
  exact ⟨rfl, rfl⟩

theorem OwnB.append {B : Nat} {v v' : Value} {l : List UInt8} {c : UInt8} {w w' : World} (hown : OwnB B v l w) (hB : B ≤ w.heap.size)
    (h : w'.ownsRow B 5 1 v' (l.length + 1) (Lib.byteCells l ++ [.int .u8 c.toNat])) (hg : (w.alloc (.cells #[.int .u8 c.toNat] 5)).grownBy w' v.ownBlock) : OwnB B v' (l ++ [c]) w' ∧ Below B w w' := by
  refine ⟨?_, ?_⟩
  · unfold OwnB
    rw [Lib.byteCells_append, List.length_append]
    exact h
  · exact ((Below.refl B w).alloc hB _).grown hg (by simp; omega) (fun k hk => (World.ownsRow.lt hown k hk).1)

set_option maxHeartbeats 1000000 in
set_option maxRecDepth 100000 in
theorem appendRune_ascii (B : Nat) (l : List UInt8) (c : UInt8) (A : Option Addr) (n cap : Nat) (w : World) (hown : OwnB B (.slice A n cap) l w) (hc : c.toNat < 128) (hlen : l.length + 1 ≤ 140737488355328) (hB : B ≤ w.heap.size) :
    Calls Tryz.prog 126 #[.slice A n cap, .int .i32 c.toNat] w (AppPost B (l ++ [c]) w) := by
  obtain ⟨i0, hi, hz0, hz1, hz2⟩ := info_parts infoByteSb
  have hc' : (c.toNat : Int) ≤ 127 := by omega
  have HO := Lib.hid hown
  unfold OwnB at hown
  go_enter Tryz.func126, Tryz.ntmps126
  go_wp2_with (at_builtin; refine wpList_append_own _ rfl _ _ 52 rfl B 5 i0 (.int .u8 0) 1 1 Tryz.underlying52 hi hz0 hz1 hz2 rfl (by decide) _ _ _ rfl (hown.alloc _) ⟨w.heap.size, 0, none⟩ 1 1 [.int .u8 c.toNat] rfl rfl ?c1 ?c2 ?c3 ?c4 ?c5 ?_)
  case c1 =>
    intro j u hj
    match j, hj with
    | 0, hj => simp at hj; subst hj; simp [Addr.add]
  case c2 => intro u hu; simp at hu; subst hu; rfl
  case c3 => unfold maxLen; omega
  case c4 => omega
  case c5 => simp; omega
  intro v' w2 hown' hgrow _
  have hq := HO.out.append hB hown' hgrow
  have HQ := Lib.hid hq
  obtain ⟨A', c', rfl⟩ := hq.1.form
  clear hq hown hgrow hown'
  go_wp2
  go_ret
  exact ⟨_, _, _, rfl, HQ.out.1, HQ.out.2⟩

set_option maxHeartbeats 1000000 in
set_option maxRecDepth 100000 in
theorem escaped_ascii (B : Nat) (l : List UInt8) (c : UInt8) (A : Option Addr) (n cap : Nat) (w : World) (hown : OwnB B (.slice A n cap) l w) (h1 : 32 ≤ c.toNat) (h2 : c.toNat ≤ 126) (h3 : ¬ c.toNat = 34) (h4 : ¬ c.toNat = 92) (hlen : l.length + 1 ≤ 140737488355328) (hB : B ≤ w.heap.size) :
    Calls Tryz.prog 122 #[.slice A n cap, .int .i32 c.toNat, .int .u8 34, .bool false, .bool false] w (AppPost B (l ++ [c]) w) := by
  have e3 : ((c.toNat : Int) == 34) = false := by rw [beq_eq_false_iff_ne]; omega
  have e4 : ((c.toNat : Int) == 92) = false := by rw [beq_eq_false_iff_ne]; omega
  have n3 : ¬ (c.toNat : Int) = 34 := by omega
  have n4 : ¬ (c.toNat : Int) = 92 := by omega
  have HO := Lib.hid hown
  clear hown h3 h4
  go_enter Tryz.func122, Tryz.ntmps122
  go_wp2_with (first
    | (go_at_call 124; refine Calls.mono (isPrint_ascii _ (by omega) (by omega) _) ?_; rintro e w' ⟨rfl, rfl⟩)
    | (go_at_call 126; refine Calls.mono (appendRune_ascii B l c A n cap _ HO.out (by omega) hlen hB) ?_; rintro e w' ⟨A', n', c', rfl, hq, hb⟩; have HQ := Lib.hid hq; have HB := Lib.hid hb; clear hq hb))
  go_ret
  exact ⟨_, _, _, rfl, HQ.out, HB.out⟩

set_option maxHeartbeats 1000000 in
set_option maxRecDepth 100000 in
theorem decode_ascii (s : ByteArray) (w : World) (h0 : 0 < s.size) (hc : s[0].toNat < 128) :
    Calls Tryz.prog 121 #[.string s] w fun e w' => e = .returned (.tuple #[.int .i32 s[0].toNat, .int .i64 1]) ∧ w = w' := by
  have hc' : (s[0].toNat : Int) < 128 := by omega
  have he : s.toList.isEmpty = false := by
    rw [ByteArray.toList_eq]
    cases hl : s.data.toList with
    | nil => have := congrArg List.length hl; rw [Array.length_toList] at this; exact absurd this (by show ¬ s.size = 0; omega)
    | cons a r => rfl
  go_enter Tryz.func121, Tryz.ntmps121
  go_wp2
  go_ret2
  exact ⟨rfl, rfl⟩

def strLen : Value → Nat | .string s => s.size | _ => 0

theorem append_at {t u : ByteArray} {k : Nat} (h : u.data.toList = t.data.toList.drop k) (hk : k < t.size) : ∃ hu : 0 < u.size, u[0] = t[k] ∧ u.size = t.size - k ∧ (u.extract 1 u.size).data.toList = t.data.toList.drop (k + 1) ∧ by' t = by' t ∧ t.data.toList.take (k + 1) = t.data.toList.take k ++ [t[k]] := by
  have hl : u.size = t.size - k := by
    have := congrArg List.length h
    simpa using this
  have hu : 0 < u.size := by omega
  have e0 : u.data.toList[0]? = t.data.toList[k]? := by rw [h]; simp
  have e1 : u[0] = t[k] := by
    have a : u.data.toList[0]? = some u[0] := by rw [Array.getElem?_toList]; exact Array.getElem?_eq_getElem hu
    have b : t.data.toList[k]? = some t[k] := by rw [Array.getElem?_toList]; exact Array.getElem?_eq_getElem hk
    rw [a, b] at e0
    exact Option.some.inj e0
  refine ⟨hu, e1, hl, ?_, rfl, ?_⟩
  · rw [Lib.extract_data, h]
    have : u.size - 1 = t.size - k - 1 := by omega
    rw [this]
    rw [List.drop_drop, List.take_of_length_le]
    simp
    omega
  · rw [List.take_succ_eq_append_getElem (by simpa using hk)]
    rfl

set_option maxHeartbeats 4000000 in
set_option maxRecDepth 100000 in
theorem quoted_ascii (B : Nat) (t : ByteArray) (A : Option Addr) (cap : Nat) (w : World) (hown : OwnB B (.slice A 0 cap) [] w) (hs : SimpleS t) (hsz : t.size ≤ 1048576) (hcap : t.size ≤ cap) (hcb : cap ≤ 16777216) (hB : B ≤ w.heap.size) :
    Calls Tryz.prog 120 #[.slice A 0 cap, .string t, .int .u8 34, .bool false, .bool false] w (AppPost B (34 :: (by' t ++ [34])) w) := by
  obtain ⟨i0, hi, hz0, hz1, hz2⟩ := info_parts infoByteSb
  have HS := Lib.hid hs
  have HO := Lib.hid hown
  clear hs
  unfold OwnB at hown
  go_enter Tryz.func120, Tryz.ntmps120
  go_wp2_with (at_builtin; refine wpList_append_own _ rfl _ _ 52 rfl B 5 i0 (.int .u8 0) 1 1 Tryz.underlying52 hi hz0 hz1 hz2 rfl (by decide) _ _ _ rfl (hown.alloc _) ⟨w.heap.size, 0, none⟩ 1 1 [.int .u8 34] rfl rfl ?c1 ?c2 ?c3 ?c4 ?c5 ?_)
  case c1 =>
    intro j u hj
    match j, hj with
    | 0, hj => simp at hj; subst hj; simp [Addr.add]
  case c2 => intro u hu; simp at hu; subst hu; rfl
  case c3 => unfold maxLen; simp
  case c4 => simp
  case c5 => simp; omega
  intro v' w2 hown' hgrow _
  have hq := HO.out.append (c := 34) hB hown' hgrow
  have HQ := Lib.hid hq
  obtain ⟨A', c', rfl⟩ := hq.1.form
  clear hq hown hgrow hown' HO
  go_wp2_with fail
  go_loopw [0, 1] (fun a b wr => ∃ k A n c u, k ≤ t.size ∧ a = .slice A n c ∧ b = .string u ∧ Hid (u.data.toList = t.data.toList.drop k) ∧ Hid (OwnB B (.slice A n c) (34 :: t.data.toList.take k) wr) ∧ Hid (Below B w wr)) (fun _ b _ => strLen b)
  case atStart => exact ⟨0, _, _, _, t, Nat.zero_le _, rfl, rfl, Lib.hid rfl, Lib.hid HQ.out.1, Lib.hid HQ.out.2⟩
  case round =>
    obtain ⟨k, A1, n1, c1, u, hk, rfl, rfl, hu, ho, hb⟩ := hrel
    by_cases hlt : k < t.size
    · obtain ⟨h0, e1, hl, e2, -, e3⟩ := append_at hu.out hlt
      obtain ⟨q1, q2, q3, q4⟩ := HS.out k hlt
      rw [← e1] at q1 q2 q3 q4 e3
      have y1 : (1 : Int) ≤ u.size := by omega
      have y2 : ((u[0].toNat : Int) == 65533) = false := by rw [beq_eq_false_iff_ne]; omega
      have HL := Lib.hid hl
      have E2 := Lib.hid e2
      have E3 := Lib.hid e3
      have Q := Lib.hid (And.intro q1 (And.intro q2 (And.intro q3 q4)))
      clear e1 hl e2 e3 q3 q4
      have hs1 := hb.out.size
      go_wp2_with (first
        | (go_at_call 121; refine Calls.mono (decode_ascii u _ h0 (by omega)) ?_; rintro e w' ⟨rfl, rfl⟩)
        | (go_at_call 122; refine Calls.mono (escaped_ascii B _ u[0] _ _ _ _ ho.out Q.out.1 Q.out.2.1 Q.out.2.2.1 Q.out.2.2.2 (by simp; omega) (by omega)) ?_; rintro e w' ⟨A', n', c', rfl, hq, hb'⟩; have HQ' := Lib.hid hq; have HB' := Lib.hid hb'; clear hq hb'))
      go_roundw
      case rel =>
        have r1 : OwnB B (.slice A' n' c') (34 :: t.data.toList.take (k + 1)) w' := by rw [E3.out]; exact HQ'.out
        first
          | exact ⟨k + 1, _, _, _, _, by omega, rfl, rfl, Lib.hid E2.out, Lib.hid r1, Lib.hid (hb.out.trans HB'.out)⟩
          | ((repeat apply Exists.intro); exact ⟨⟨k + 1, _, _, _, _, by omega, rfl, rfl, Lib.hid E2.out, Lib.hid r1, Lib.hid (hb.out.trans HB'.out)⟩, rfl⟩)
      case measure => simp [strLen]; omega
    · have hke : k = t.size := by omega
      have hu0 : u.size = 0 := by
        have := congrArg List.length hu.out
        simp at this
        omega
      have ht : t.data.toList.take k = t.data.toList := by rw [hke, List.take_of_length_le]; simp
      have ho1 := ho.out
      rw [ht] at ho1
      have HO1 := Lib.hid ho1
      have hl1 : (34 :: t.data.toList).length = t.size + 1 := by simp
      have hown1 : wr.ownsRow B 5 1 (.slice A1 n1 c1) (34 :: t.data.toList).length (Lib.byteCells (34 :: t.data.toList)) := ho1
      have hs1 := hb.out.size
      have HL1 := Lib.hid hl1
      clear ht ho1 ho hu hke hl1
      go_wp2_with (at_builtin; refine wpList_append_own _ rfl _ _ 52 rfl B 5 i0 (.int .u8 0) 1 1 Tryz.underlying52 hi hz0 hz1 hz2 rfl (by decide) _ _ _ rfl (hown1.alloc _) ⟨wr.heap.size, 0, none⟩ 1 1 [.int .u8 34] rfl rfl ?c1 ?c2 ?c3 ?c4 ?c5 ?_)
      case c1 =>
        intro j u hj
        match j, hj with
        | 0, hj => simp at hj; subst hj; simp [Addr.add]
      case c2 => intro u hu; simp at hu; subst hu; rfl
      case c3 => have := HL1.out; unfold maxLen; omega
      case c4 => have := HL1.out; omega
      case c5 => simp; omega
      intro v' w3 hown' hgrow _
      have hq := HO1.out.append (c := 34) (Nat.le_trans hB hs1) hown' hgrow
      have HQ' := Lib.hid hq
      obtain ⟨A', c', rfl⟩ := hq.1.form
      clear hq hown1 hgrow hown'
      go_wp2
      go_ret
      exact ⟨_, _, _, rfl, HQ'.out.1, hb.out.trans HQ'.out.2⟩

theorem byteCells_get {l : List UInt8} {j : Nat} (h : j < l.length) : (Lib.byteCells l)[j]? = some (.int .u8 (l[j].toNat : Int)) := by
  unfold Lib.byteCells
  rw [List.getElem?_map, List.getElem?_eq_getElem h]
  rfl

set_option maxHeartbeats 1000000 in
set_option maxRecDepth 100000 in
theorem quoteWith_ascii (t : ByteArray) (w : World) (hs : SimpleS t) (hsz : t.size ≤ 1048576) :
    Calls Tryz.prog 119 #[.string t, .int .u8 34, .bool false, .bool false] w fun e w' => e = .returned (.string ⟨(34 :: (by' t ++ [34])).toArray⟩) ∧ Below w.heap.size w w' := by
  have HS := Lib.hid hs
  clear hs
  obtain ⟨i0, hi, hz0, hz1, hz2⟩ := info_parts infoByteSb
  obtain ⟨w1, hr, ho, hg⟩ := run_make_own (P := Tryz.prog) w w.heap.size 52 5 i0 (.int .u8 0) 1 Tryz.underlying52 hi hz0 hz1 .i64 .i64 (3 * t.size / 2) (by rw [hz2]; omega) (by unfold maxLen; omega) (Nat.le_refl _)
  rw [show ((3 * t.size / 2 : Nat) : Int) = 3 * (t.size : Int) / 2 by omega] at hr
  have hb1 : Below w.heap.size w w1 := (Below.refl _ _).grown hg (Nat.le_refl _) (fun k hk => by cases hk)
  have hcall := quoted_ascii w.heap.size t (some ⟨w.heap.size, 0, none⟩) (3 * t.size / 2) w1 ho HS.out hsz (by omega) (by omega) hb1.size
  have HC := Lib.hid hcall
  have HB := Lib.hid hb1
  clear ho hg hb1 hcall hi hz0 hz1 hz2
  go_enter Tryz.func119, Tryz.ntmps119
  go_wp2_with fail
  refine Calls.mono HC.out ?_
  rintro e w2 ⟨A, n, c, rfl, ho, hb⟩
  have HB2 := Lib.hid (HB.out.trans hb)
  obtain ⟨-, h0 | ⟨g, cap, cur, fz⟩⟩ := id ho
  · obtain ⟨_, h0⟩ := h0
    simp at h0
  obtain ⟨hv, _, hcur, hcap, _, hsz', htk⟩ := fz
  injection hv with e1 e2 e3
  subst e1; subst e2; subst e3
  have hcv := Go.run_convert_bytes_back (P := Tryz.prog) w2 52 9 5 ⟨g, 0, none⟩ c (34 :: (by' t ++ [34])) Tryz.underlying52 Tryz.underlying5 Tryz.underlying9 (fun j hj => by
    rw [show (⟨g, 0, none⟩ : Addr).add j = ⟨g, j, none⟩ by unfold Addr.add; split <;> simp_all]
    rw [cell_of_heap' hcur, ← Array.getElem?_toList]
    have : (cur.toList.take ((34 :: (by' t ++ [34])).length * 1))[j]? = (Lib.byteCells (34 :: (by' t ++ [34])))[j]? := by rw [htk]
    rw [List.getElem?_take_of_lt (by omega)] at this
    rw [this]
    exact byteCells_get hj)
  generalize hq : (34 :: (by' t ++ [34])) = q at *
  have HQ := Lib.hid hq
  generalize q.length = m at *
  clear ho hb hcap hsz' htk hcur hq
  go_wp2
  go_ret
  exact ⟨by rw [HQ.out]; rfl, HB2.out⟩

theorem quote_ascii (t : ByteArray) (w : World) (hs : SimpleS t) (hsz : t.size ≤ 1048576) :
    Calls Tryz.prog 118 #[.string t] w fun e w' => e = .returned (.string ⟨(34 :: (by' t ++ [34])).toArray⟩) ∧ Below w.heap.size w w' := by
  have HC := Lib.hid (quoteWith_ascii t w hs hsz)
  clear hs
  generalize (34 :: (by' t ++ [34])) = q at *
  go_enter Tryz.func118, Tryz.ntmps118
  go_wp2_with fail
  refine Calls.mono HC.out ?_
  rintro e w2 ⟨rfl, hb⟩
  have HB := Lib.hid hb
  clear hb
  go_wp2
  go_ret
  exact ⟨rfl, HB.out⟩

theorem SB.below {B sb : Nat} {l : List UInt8} {w w' : World} (h : SB B sb l w) (hb : Below w.heap.size w w') : SB B sb l w' := by
  have key : ∀ p, Lib.BuilderAtF 167 5 B sb p (Lib.byteCells l) w → Lib.BuilderAtF 167 5 B sb p (Lib.byteCells l) w' := by
    rintro p ⟨hB, v, hbk, ⟨hl, hown⟩, hne⟩
    refine ⟨hB, v, (hb.block sb (lt_of_block hbk)).trans hbk, ⟨hl, ?_⟩, hne⟩
    rcases hown with h | ⟨g, cap, cur, fz, h1, h2, h3, h4⟩
    · exact Or.inl h
    · exact Or.inr ⟨g, cap, cur, fz, h1, h2, (hb.block g (lt_of_block h3)).trans h3, h4⟩
  exact h.elim (fun h => Or.inl (key _ h)) (fun h => Or.inr (key _ h))

theorem env_quote {B bt sb : Nat} {l : List UInt8} {w : World} (h : Env B bt sb l w) (t : ByteArray) (hs : SimpleS t) (hsz : t.size ≤ 1048576) :
    Calls Tryz.prog 118 #[.string t] w (EnvPost B bt sb (.string ⟨(34 :: (by' t ++ [34])).toArray⟩) w l) := by
  refine (quote_ascii t w hs hsz).mono ?_
  rintro e w' ⟨he, hb⟩
  exact ⟨he, h.later (h.1.below hb) (hb.mono h.2.1), hb.mono h.2.1⟩

end Go.Proofs.YtiogfkpclkkoaaaGreat
