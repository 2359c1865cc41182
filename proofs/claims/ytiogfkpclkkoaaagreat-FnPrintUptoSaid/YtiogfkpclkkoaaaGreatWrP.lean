/-
  The writers of nodes with loops. Printed by py/wrc.py.
  The writers of chains and pipelines. Printed by py/wrc.py.
-/
import Derived.Test.YtiogfkpclkkoaaaGreatWrF
import Derived.Test.YtiogfkpclkkoaaaGreatAsserts
import Derived.LoopTactic
import Derived.Deep.LoopGhost
set_option linter.unusedVariables false
set_option linter.unusedSimpArgs false
namespace Go.Proofs.YtiogfkpclkkoaaaGreat
open Go.RowKit

attribute [local go_sem] ta_PipeNode

set_option maxHeartbeats 1000000 in
set_option maxRecDepth 100000 in
theorem wr_field {B bt sb b d : Nat} {n : Nd} {l : List UInt8} {nv : Value} {w : World} (h : n.kind = 7) (hx : Strs w (· < B) nv n.names) (hlen : n.names.length ≤ 1048576) (hh : w.heap[b]? = some (.cells #[.int .i64 8, .int .i64 0, .pointer (some ⟨bt, 0, none⟩), nv] 68 (0, 0))) (he : Env B bt sb l w) (hl : l.length + (pr (d + 1) n).length ≤ 140737488355328) :
    Calls Tryz.prog 73 #[.pointer (some ⟨b, 0, none⟩), .pointer (some ⟨sb, 0, none⟩)] w (WrPost B bt sb w (l ++ pr (d + 1) n)) := by
  have e0 : pr (d + 1) n = dots n.names := by simp [pr, h]
  rw [e0] at hl ⊢
  clear e0 h
  obtain ⟨A, c, rfl⟩ := Row.form hx
  have g1 : w.cell? ⟨b, 3, none⟩ = some (.slice A n.names.length c) := cell_of_heap' hh
  generalize n.names = names at *
  have HX := Lib.hid hx
  have ST := Lib.hid (And.intro he (Below.refl B w))
  clear hx he hh
  generalize hm : names.length = m at *
  have M := Lib.hid hm
  clear hm
  go_enter Tryz.func73, Tryz.ntmps73
  go_wp2_with fail
  go_loopw [11] (fun i wr => ∃ k : Nat, k ≤ m ∧ i = .int .i64 k ∧ Hid (Env B bt sb (l ++ dots (names.take k)) wr) ∧ Hid (Below B w wr)) (fun i _ => m - (intOf i).toNat)
  case atStart => exact ⟨0, Nat.zero_le _, rfl, Lib.hid (by have h := ST.out.1; simpa [dots, List.append_assoc] using h), Lib.hid ST.out.2⟩
  case round =>
    obtain ⟨k, hk, rfl, he, hb⟩ := hrel
    by_cases hltk : k < m
    · have hlt' : k < names.length := by rw [M.out]; exact hltk
      have hx := HX.out.low hb.out
      rw [← M.out] at hx
      obtain ⟨g, o, rfl, _, _, q0⟩ := hx.at hlt'
      have hr := dots_room hlt'
      obtain ⟨s, hs⟩ : ∃ s, names[k] = s := ⟨_, rfl⟩
      rw [hs] at q0 hr
      have HS := Lib.hid hs
      have HE0 := Lib.hid he.out
      have HB0 := Lib.hid hb.out
      clear hx hs he
      go_wp2_with fail
      refine Calls.mono (env_byte HE0.out 46 46 rfl (by (try simp only [List.length_append, List.length_cons, List.length_nil, by'_len]); omega)) ?_
      rintro e w1 ⟨rfl, he1, hb1⟩
      have HE1 := Lib.hid he1
      have HB1 := Lib.hid (HB0.out.trans hb1)
      clear he1 hb1
      go_wp2_with fail
      refine Calls.mono (env_string HE1.out _ (by' s) rfl (by (try simp only [List.length_append, List.length_cons, List.length_nil, by'_len]); omega)) ?_
      rintro e w2 ⟨rfl, he2, hb2⟩
      have HE2 := Lib.hid he2
      have HB2 := Lib.hid (HB1.out.trans hb2)
      clear he2 hb2
      go_wp2_with fail
      go_roundw
      case rel =>
        have r1 : Env B bt sb (l ++ dots (names.take (k + 1))) w2 := by
          have h := HE2.out
          rw [dots_succ hlt', HS.out]
          simpa [List.append_assoc] using h
        first
          | exact ⟨k + 1, by omega, by go_num, Lib.hid r1, Lib.hid HB2.out⟩
          | ((repeat apply Exists.intro); exact ⟨⟨k + 1, by omega, by go_num, Lib.hid r1, Lib.hid HB2.out⟩, rfl⟩)
      case measure => simp [intOf]; omega
    · have hk' : k = m := by omega
      subst hk'
      have r2 : Env B bt sb (l ++ dots names) wr := by
        have h := he.out
        rw [List.take_of_length_le (by rw [M.out]; exact Nat.le_refl _)] at h
        simpa [List.append_assoc] using h
      have R2 := Lib.hid r2
      clear r2 he
      go_wp2
      all_goals (first | go_end0 | refine bodyPost_ret (results_none rfl _ _ _) rfl ?_)
      all_goals exact ⟨rfl, R2.out, hb.out⟩

set_option maxHeartbeats 1000000 in
set_option maxRecDepth 100000 in
theorem wr_var {B bt sb b d : Nat} {n : Nd} {l : List UInt8} {nv : Value} {w : World} (h : n.kind = 17) (hx : Strs w (· < B) nv n.names) (hlen : n.names.length ≤ 1048576) (hh : w.heap[b]? = some (.cells #[.int .i64 18, .int .i64 0, .pointer (some ⟨bt, 0, none⟩), nv] 84 (0, 0))) (he : Env B bt sb l w) (hl : l.length + (pr (d + 1) n).length ≤ 140737488355328) :
    Calls Tryz.prog 96 #[.pointer (some ⟨b, 0, none⟩), .pointer (some ⟨sb, 0, none⟩)] w (WrPost B bt sb w (l ++ pr (d + 1) n)) := by
  have e0 : pr (d + 1) n = joinL [46] (n.names.map by') := by simp [pr, h, dotted]
  rw [e0] at hl ⊢
  clear e0 h
  obtain ⟨A, c, rfl⟩ := Row.form hx
  have g1 : w.cell? ⟨b, 3, none⟩ = some (.slice A n.names.length c) := cell_of_heap' hh
  generalize n.names = names at *
  have HX := Lib.hid hx
  have HE := Lib.hid he
  clear hx he hh
  generalize hm : names.length = m at *
  have M := Lib.hid hm
  clear hm
  go_enter Tryz.func96, Tryz.ntmps96
  go_wp2_with fail
  go_loopw [11] (fun i wr => ∃ k : Nat, k ≤ m ∧ i = .int .i64 k ∧ Hid (Env B bt sb (l ++ joinK [46] by' k names) wr) ∧ Hid (Below B w wr)) (fun i _ => m - (intOf i).toNat)
  case atStart => exact ⟨0, Nat.zero_le _, rfl, Lib.hid (by rw [joinK_zero, List.append_nil]; exact HE.out), Lib.hid (Below.refl _ _)⟩
  case round =>
    obtain ⟨k, hk, rfl, he, hb⟩ := hrel
    by_cases hltk : k < m
    · have hlt' : k < names.length := by rw [M.out]; exact hltk
      have hx := HX.out.low hb.out
      rw [← M.out] at hx
      obtain ⟨g, o, rfl, _, _, q0⟩ := hx.at hlt'
      have HE0 := Lib.hid he.out
      have HB0 := Lib.hid hb.out
      clear hx he
      by_cases hk0 : k = 0
      · subst hk0
        have hr := joinK_room0 [46] by' hlt'
        obtain ⟨s, hs⟩ : ∃ s, names[0] = s := ⟨_, rfl⟩
        rw [hs] at q0 hr
        have HS := Lib.hid hs
        clear hs
        simp only [joinK_zero, List.append_nil, by'_len] at HE0 hr
        rw [Nat.add_zero] at q0
        rw [show ((0 : Nat) : Int) = (0 : Int) from rfl]
        go_wp2_with fail
        refine Calls.mono (env_string HE0.out _ (by' s) rfl (by rw [by'_len]; omega)) ?_
        rintro e w1 ⟨rfl, he1, hb1⟩
        have HE1 := Lib.hid he1
        have HB1 := Lib.hid (HB0.out.trans hb1)
        clear he1 hb1
        go_wp2_with fail
        go_roundw
        case rel =>
          have r1 : Env B bt sb (l ++ joinK [46] by' (0 + 1) names) w1 := by
            have h := HE1.out
            rw [joinK_one _ _ hlt', HS.out]
            simpa [List.append_assoc] using h
          first
            | exact ⟨0 + 1, by omega, by rfl, Lib.hid r1, Lib.hid HB1.out⟩
            | ((repeat apply Exists.intro); exact ⟨⟨0 + 1, by omega, by rfl, Lib.hid r1, Lib.hid HB1.out⟩, rfl⟩)
        case measure => simp [intOf]; omega
      · have hk1 : 0 < k := by omega
        have hr := joinK_room [46] by' hlt' hk1
        obtain ⟨s, hs⟩ : ∃ s, names[k] = s := ⟨_, rfl⟩
        rw [hs] at q0 hr
        have HS := Lib.hid hs
        clear hs
        simp only [by'_len, List.length_cons, List.length_nil] at hr
        go_wp2_with fail
        refine Calls.mono (env_byte HE0.out 46 46 rfl (by (try simp only [List.length_append, List.length_cons, List.length_nil, by'_len]); omega)) ?_
        rintro e w1 ⟨rfl, he1, hb1⟩
        have HE1 := Lib.hid he1
        have HB1 := Lib.hid (HB0.out.trans hb1)
        clear he1 hb1
        go_wp2_with fail
        refine Calls.mono (env_string HE1.out _ (by' s) rfl (by (try simp only [List.length_append, List.length_cons, List.length_nil, by'_len]); omega)) ?_
        rintro e w2 ⟨rfl, he2, hb2⟩
        have HE2 := Lib.hid he2
        have HB2 := Lib.hid (HB1.out.trans hb2)
        clear he2 hb2
        go_wp2_with fail
        go_roundw
        case rel =>
          have r1 : Env B bt sb (l ++ joinK [46] by' (k + 1) names) w2 := by
            have h := HE2.out
            rw [joinK_succ _ _ hlt' hk1, HS.out]
            simpa [List.append_assoc] using h
          first
            | exact ⟨k + 1, by omega, by go_num, Lib.hid r1, Lib.hid HB2.out⟩
            | ((repeat apply Exists.intro); exact ⟨⟨k + 1, by omega, by go_num, Lib.hid r1, Lib.hid HB2.out⟩, rfl⟩)
        case measure => simp [intOf]; omega
    · have hk' : k = m := by omega
      subst hk'
      have r2 : Env B bt sb (l ++ joinL [46] (names.map by')) wr := by
        have h := he.out
        rwa [joinK_all _ _ M.out] at h
      have R2 := Lib.hid r2
      clear r2 he
      go_wp2
      all_goals (first | go_end0 | refine bodyPost_ret (results_none rfl _ _ _) rfl ?_)
      all_goals exact ⟨rfl, R2.out, hb.out⟩

set_option maxHeartbeats 1000000 in
set_option maxRecDepth 100000 in
theorem wr_list {B bt sb b d : Nat} {n : Nd} {l : List UInt8} {kv : Value} {w : World} (ih : WrAt B bt sb d) (h : n.kind = 10) (rk : RowP w (· < B) 41 ifc (PN w 0 (· < B) (TrIs (some ⟨bt, 0, none⟩)) d) kv n.kids) (hlen : n.kids.length ≤ 1048576) (nk : ∀ p ∈ n.kids, Nmd d p) (sk : ∀ p ∈ n.kids, Sm d p) (hh : w.heap[b]? = some (.cells #[.int .i64 11, .int .i64 0, .pointer (some ⟨bt, 0, none⟩), kv] 142 (0, 0))) (he : Env B bt sb l w) (hl : l.length + (pr (d + 1) n).length ≤ 140737488355328) :
    Calls Tryz.prog 137 #[.pointer (some ⟨b, 0, none⟩), .pointer (some ⟨sb, 0, none⟩)] w (WrPost B bt sb w (l ++ pr (d + 1) n)) := by
  have e0 : pr (d + 1) n = n.kids.flatMap (pr d) := by simp [pr, h]
  rw [e0] at hl ⊢
  clear e0 h
  obtain ⟨A, c, rfl⟩ := rk.form
  have g1 : w.cell? ⟨b, 3, none⟩ = some (.slice A n.kids.length c) := cell_of_heap' hh
  generalize n.kids = kids at *
  have HX := Lib.hid rk
  have HE := Lib.hid he
  have IH := Lib.hid ih
  have NK := Lib.hid nk
  have SK := Lib.hid sk
  clear rk he hh ih nk sk
  generalize hm : kids.length = m at *
  have M := Lib.hid hm
  clear hm
  go_enter Tryz.func137, Tryz.ntmps137
  go_wp2_with fail
  go_loopw [11] (fun i wr => ∃ k : Nat, k ≤ m ∧ i = .int .i64 k ∧ Hid (Env B bt sb (l ++ (kids.take k).flatMap (pr d)) wr) ∧ Hid (Below B w wr)) (fun i _ => m - (intOf i).toNat)
  case atStart => exact ⟨0, Nat.zero_le _, rfl, Lib.hid (by simpa using HE.out), Lib.hid (Below.refl _ _)⟩
  case round =>
    obtain ⟨k, hk, rfl, he, hb⟩ := hrel
    by_cases hltk : k < m
    · have hlt' : k < kids.length := by rw [M.out]; exact hltk
      have hx := HX.out.low hb.out
      rw [← M.out] at hx
      obtain ⟨g, b', p', hp, rfl, q0, hpn⟩ := hx.at hlt'
      have hmem : p' ∈ kids := by rw [← hp]; exact List.getElem_mem _
      have HN := Lib.hid hpn
      have NK' := Lib.hid (NK.out p' hmem)
      have SK' := Lib.hid (SK.out p' hmem)
      have HP := Lib.hid hp
      have HE0 := Lib.hid he.out
      have HB0 := Lib.hid hb.out
      clear hx he hpn hmem
      have hr := flatMap_room (pr d) hlt'
      rw [hp] at hr
      unfold ifc at q0
      obtain ⟨K, F, hK, hF, mm, ee⟩ := HN.out.meth (sb := sb)
      rw [hK] at q0
      have HF := Lib.hid hF
      clear hF hK
      have hc := IH.out b' p' _ wr HN.out NK'.out SK'.out HE0.out (by (try simp only [List.length_append, List.length_cons, List.length_nil, by'_len]); omega)
      rw [HF.out] at hc
      have HC := Lib.hid hc
      clear hc hp
      go_wp2_with fail
      refine Calls.mono HC.out ?_
      rintro e w1 ⟨rfl, he1, hb1⟩
      have HE1 := Lib.hid he1
      have HB1 := Lib.hid (HB0.out.trans hb1)
      clear he1 hb1
      go_wp2_with fail
      go_roundw
      case rel =>
        have r1 : Env B bt sb (l ++ (kids.take (k + 1)).flatMap (pr d)) w1 := by
          have h := HE1.out
          rw [flatMap_succ _ hlt', HP.out]
          simpa [List.append_assoc] using h
        first
          | exact ⟨k + 1, by omega, by go_num, Lib.hid r1, Lib.hid HB1.out⟩
          | ((repeat apply Exists.intro); exact ⟨⟨k + 1, by omega, by go_num, Lib.hid r1, Lib.hid HB1.out⟩, rfl⟩)
      case measure => simp [intOf]; omega
    · have hk' : k = m := by omega
      subst hk'
      have r2 : Env B bt sb (l ++ kids.flatMap (pr d)) wr := by
        have h := he.out
        rwa [List.take_of_length_le (by rw [M.out]; exact Nat.le_refl _)] at h
      have R2 := Lib.hid r2
      clear r2 he
      go_wp2
      all_goals (first | go_end0 | refine bodyPost_ret (results_none rfl _ _ _) rfl ?_)
      all_goals exact ⟨rfl, R2.out, hb.out⟩

set_option maxHeartbeats 4000000 in
set_option maxRecDepth 100000 in
theorem wr_command {B bt sb b d : Nat} {n : Nd} {l : List UInt8} {kv : Value} {w : World} (ih : WrAt B bt sb d) (h : n.kind = 5) (rk : RowP w (· < B) 41 ifc (PN w 0 (· < B) (TrIs (some ⟨bt, 0, none⟩)) d) kv n.kids) (hlen : n.kids.length ≤ 1048576) (nk : ∀ p ∈ n.kids, Nmd d p) (sk : ∀ p ∈ n.kids, Sm d p) (hh : w.heap[b]? = some (.cells #[.int .i64 4, .int .i64 0, .pointer (some ⟨bt, 0, none⟩), kv] 105 (0, 0))) (he : Env B bt sb l w) (hl : l.length + (pr (d + 1) n).length ≤ 140737488355328) :
    Calls Tryz.prog 109 #[.pointer (some ⟨b, 0, none⟩), .pointer (some ⟨sb, 0, none⟩)] w (WrPost B bt sb w (l ++ pr (d + 1) n)) := by
  have e0 : pr (d + 1) n = joinL [32] (n.kids.map (argD (pr d))) := by simp [pr, h]
  rw [e0] at hl ⊢
  clear e0 h
  obtain ⟨A, c, rfl⟩ := rk.form
  have g1 : w.cell? ⟨b, 3, none⟩ = some (.slice A n.kids.length c) := cell_of_heap' hh
  generalize n.kids = kids at *
  have HX := Lib.hid rk
  have HE := Lib.hid he
  have IH := Lib.hid ih
  have NK := Lib.hid nk
  have SK := Lib.hid sk
  clear rk he hh ih nk sk
  generalize hm : kids.length = m at *
  have M := Lib.hid hm
  clear hm
  go_enter Tryz.func109, Tryz.ntmps109
  go_wp2_with fail
  go_loopw [13] (fun i wr => ∃ k : Nat, k ≤ m ∧ i = .int .i64 k ∧ Hid (Env B bt sb (l ++ joinK [32] (argD (pr d)) k kids) wr) ∧ Hid (Below B w wr)) (fun i _ => m - (intOf i).toNat)
  case atStart => exact ⟨0, Nat.zero_le _, rfl, Lib.hid (by rw [joinK_zero, List.append_nil]; exact HE.out), Lib.hid (Below.refl _ _)⟩
  case round =>
    obtain ⟨k, hk, rfl, he, hb⟩ := hrel
    by_cases hltk : k < m
    · have hlt' : k < kids.length := by rw [M.out]; exact hltk
      have hx := HX.out.low hb.out
      rw [← M.out] at hx
      obtain ⟨g, b', p', hp, rfl, q0, hpn⟩ := hx.at hlt'
      have hmem : p' ∈ kids := by rw [← hp]; exact List.getElem_mem _
      have HN := Lib.hid hpn
      have NK' := Lib.hid (NK.out p' hmem)
      have SK' := Lib.hid (SK.out p' hmem)
      have HP := Lib.hid hp
      have HE0 := Lib.hid he.out
      have HB0 := Lib.hid hb.out
      clear hx he hpn hmem
      by_cases hk0 : k = 0
      · subst hk0
        by_cases hpipe : p'.kind = 13
        · have BW0 := Lib.hid (Below.refl B wr)
          have hr := joinK_room0 [32] (argD (pr d)) hlt'
          rw [hp] at hr
          simp only [joinK_zero, List.append_nil] at HE0 hr
          rw [show ((0 : Nat) : Int) = (0 : Int) from rfl]
          have ea : argD (pr d) p' = 40 :: (pr d p' ++ [41]) := by simp [argD, hpipe]
          rw [ea] at hr
          simp only [List.length_append, List.length_cons, List.length_nil] at hr
          unfold ifc at q0
          rw [hpipe, show ptrT 13 = 90 from rfl] at q0
          have HK : Hid (p'.kind = ((13 : Nat) : Int)) := Lib.hid hpipe
          have EA := Lib.hid ea
          clear hpipe ea hp
          go_wp2_with fail
          refine Calls.mono (env_byte HE0.out 40 40 rfl (by (try simp only [List.length_append, List.length_cons, List.length_nil, by'_len]); omega)) ?_
          rintro e w1 ⟨rfl, he1, hb1⟩
          have HE1 := Lib.hid he1
          have HB1 := Lib.hid (HB0.out.trans hb1)
          have BW1 := Lib.hid (BW0.out.trans hb1)
          clear he1 hb1
          go_wp2_with fail
          refine Calls.mono (wr_at IH.out HK.out (HN.out.low BW1.out) NK'.out SK'.out HE1.out (by (try simp only [List.length_append, List.length_cons, List.length_nil, by'_len]); omega)) ?_
          rintro e w2 ⟨rfl, he2, hb2⟩
          have HE2 := Lib.hid he2
          have HB2 := Lib.hid (HB1.out.trans hb2)
          have BW2 := Lib.hid (BW1.out.trans hb2)
          clear he2 hb2
          go_wp2_with fail
          refine Calls.mono (env_byte HE2.out 41 41 rfl (by (try simp only [List.length_append, List.length_cons, List.length_nil, by'_len]); omega)) ?_
          rintro e w3 ⟨rfl, he3, hb3⟩
          have HE3 := Lib.hid he3
          have HB3 := Lib.hid (HB2.out.trans hb3)
          have BW3 := Lib.hid (BW2.out.trans hb3)
          clear he3 hb3
          go_wp2_with fail
          go_roundw
          case rel =>
            have r1 : Env B bt sb (l ++ joinK [32] (argD (pr d)) (0 + 1) kids) w3 := by
              have h := HE3.out
              rw [joinK_one _ _ hlt', HP.out, EA.out]
              simpa [List.append_assoc] using h
            first
              | exact ⟨0 + 1, by omega, by rfl, Lib.hid r1, Lib.hid HB3.out⟩
              | ((repeat apply Exists.intro); exact ⟨⟨0 + 1, by omega, by rfl, Lib.hid r1, Lib.hid HB3.out⟩, rfl⟩)
          case measure => simp [intOf]; omega
        · have BW0 := Lib.hid (Below.refl B wr)
          have hr := joinK_room0 [32] (argD (pr d)) hlt'
          rw [hp] at hr
          simp only [joinK_zero, List.append_nil] at HE0 hr
          rw [show ((0 : Nat) : Int) = (0 : Int) from rfl]
          have ea : argD (pr d) p' = pr d p' := by simp [argD, hpipe]
          rw [ea] at hr
          have hne := ptrT_ne HN.out.kindOk hpipe
          unfold ifc at q0
          obtain ⟨K, F, hK, hF, mm, ee⟩ := HN.out.meth (sb := sb)
          rw [hK] at q0 hne
          have HF := Lib.hid hF
          have EA := Lib.hid ea
          clear hF hK hpipe ea hp
          go_wp2_with fail
          have hc := IH.out b' p' _ _ (HN.out.low BW0.out) NK'.out SK'.out HE0.out (by (try simp only [List.length_append, List.length_cons, List.length_nil, by'_len]); omega)
          rw [HF.out] at hc
          have HC := Lib.hid hc
          clear hc
          refine Calls.mono HC.out ?_
          rintro e w1 ⟨rfl, he1, hb1⟩
          have HE1 := Lib.hid he1
          have HB1 := Lib.hid (HB0.out.trans hb1)
          have BW1 := Lib.hid (BW0.out.trans hb1)
          clear he1 hb1
          go_wp2_with fail
          go_roundw
          case rel =>
            have r1 : Env B bt sb (l ++ joinK [32] (argD (pr d)) (0 + 1) kids) w1 := by
              have h := HE1.out
              rw [joinK_one _ _ hlt', HP.out, EA.out]
              simpa [List.append_assoc] using h
            first
              | exact ⟨0 + 1, by omega, by rfl, Lib.hid r1, Lib.hid HB1.out⟩
              | ((repeat apply Exists.intro); exact ⟨⟨0 + 1, by omega, by rfl, Lib.hid r1, Lib.hid HB1.out⟩, rfl⟩)
          case measure => simp [intOf]; omega
      · have hk1 : 0 < k := by omega
        by_cases hpipe : p'.kind = 13
        · have BW0 := Lib.hid (Below.refl B wr)
          have hr := joinK_room [32] (argD (pr d)) hlt' hk1
          rw [hp] at hr
          simp only [List.length_cons, List.length_nil] at hr
          have ea : argD (pr d) p' = 40 :: (pr d p' ++ [41]) := by simp [argD, hpipe]
          rw [ea] at hr
          simp only [List.length_append, List.length_cons, List.length_nil] at hr
          unfold ifc at q0
          rw [hpipe, show ptrT 13 = 90 from rfl] at q0
          have HK : Hid (p'.kind = ((13 : Nat) : Int)) := Lib.hid hpipe
          have EA := Lib.hid ea
          clear hpipe ea hp
          go_wp2_with fail
          refine Calls.mono (env_byte HE0.out 32 32 rfl (by (try simp only [List.length_append, List.length_cons, List.length_nil, by'_len]); omega)) ?_
          rintro e w1 ⟨rfl, he1, hb1⟩
          have HE1 := Lib.hid he1
          have HB1 := Lib.hid (HB0.out.trans hb1)
          have BW1 := Lib.hid (BW0.out.trans hb1)
          clear he1 hb1
          go_wp2_with fail
          refine Calls.mono (env_byte HE1.out 40 40 rfl (by (try simp only [List.length_append, List.length_cons, List.length_nil, by'_len]); omega)) ?_
          rintro e w2 ⟨rfl, he2, hb2⟩
          have HE2 := Lib.hid he2
          have HB2 := Lib.hid (HB1.out.trans hb2)
          have BW2 := Lib.hid (BW1.out.trans hb2)
          clear he2 hb2
          go_wp2_with fail
          refine Calls.mono (wr_at IH.out HK.out (HN.out.low BW2.out) NK'.out SK'.out HE2.out (by (try simp only [List.length_append, List.length_cons, List.length_nil, by'_len]); omega)) ?_
          rintro e w3 ⟨rfl, he3, hb3⟩
          have HE3 := Lib.hid he3
          have HB3 := Lib.hid (HB2.out.trans hb3)
          have BW3 := Lib.hid (BW2.out.trans hb3)
          clear he3 hb3
          go_wp2_with fail
          refine Calls.mono (env_byte HE3.out 41 41 rfl (by (try simp only [List.length_append, List.length_cons, List.length_nil, by'_len]); omega)) ?_
          rintro e w4 ⟨rfl, he4, hb4⟩
          have HE4 := Lib.hid he4
          have HB4 := Lib.hid (HB3.out.trans hb4)
          have BW4 := Lib.hid (BW3.out.trans hb4)
          clear he4 hb4
          go_wp2_with fail
          go_roundw
          case rel =>
            have r1 : Env B bt sb (l ++ joinK [32] (argD (pr d)) (k + 1) kids) w4 := by
              have h := HE4.out
              rw [joinK_succ _ _ hlt' hk1, HP.out, EA.out]
              simpa [List.append_assoc] using h
            first
              | exact ⟨k + 1, by omega, by go_num, Lib.hid r1, Lib.hid HB4.out⟩
              | ((repeat apply Exists.intro); exact ⟨⟨k + 1, by omega, by go_num, Lib.hid r1, Lib.hid HB4.out⟩, rfl⟩)
          case measure => simp [intOf]; omega
        · have BW0 := Lib.hid (Below.refl B wr)
          have hr := joinK_room [32] (argD (pr d)) hlt' hk1
          rw [hp] at hr
          simp only [List.length_cons, List.length_nil] at hr
          have ea : argD (pr d) p' = pr d p' := by simp [argD, hpipe]
          rw [ea] at hr
          have hne := ptrT_ne HN.out.kindOk hpipe
          unfold ifc at q0
          obtain ⟨K, F, hK, hF, mm, ee⟩ := HN.out.meth (sb := sb)
          rw [hK] at q0 hne
          have HF := Lib.hid hF
          have EA := Lib.hid ea
          clear hF hK hpipe ea hp
          go_wp2_with fail
          refine Calls.mono (env_byte HE0.out 32 32 rfl (by (try simp only [List.length_append, List.length_cons, List.length_nil, by'_len]); omega)) ?_
          rintro e w1 ⟨rfl, he1, hb1⟩
          have HE1 := Lib.hid he1
          have HB1 := Lib.hid (HB0.out.trans hb1)
          have BW1 := Lib.hid (BW0.out.trans hb1)
          clear he1 hb1
          go_wp2_with fail
          have hc := IH.out b' p' _ _ (HN.out.low BW1.out) NK'.out SK'.out HE1.out (by (try simp only [List.length_append, List.length_cons, List.length_nil, by'_len]); omega)
          rw [HF.out] at hc
          have HC := Lib.hid hc
          clear hc
          refine Calls.mono HC.out ?_
          rintro e w2 ⟨rfl, he2, hb2⟩
          have HE2 := Lib.hid he2
          have HB2 := Lib.hid (HB1.out.trans hb2)
          have BW2 := Lib.hid (BW1.out.trans hb2)
          clear he2 hb2
          go_wp2_with fail
          go_roundw
          case rel =>
            have r1 : Env B bt sb (l ++ joinK [32] (argD (pr d)) (k + 1) kids) w2 := by
              have h := HE2.out
              rw [joinK_succ _ _ hlt' hk1, HP.out, EA.out]
              simpa [List.append_assoc] using h
            first
              | exact ⟨k + 1, by omega, by go_num, Lib.hid r1, Lib.hid HB2.out⟩
              | ((repeat apply Exists.intro); exact ⟨⟨k + 1, by omega, by go_num, Lib.hid r1, Lib.hid HB2.out⟩, rfl⟩)
          case measure => simp [intOf]; omega
    · have hk' : k = m := by omega
      subst hk'
      have r2 : Env B bt sb (l ++ joinL [32] (kids.map (argD (pr d)))) wr := by
        have h := he.out
        rwa [joinK_all _ _ M.out] at h
      have R2 := Lib.hid r2
      clear r2 he
      go_wp2
      all_goals (first | go_end0 | refine bodyPost_ret (results_none rfl _ _ _) rfl ?_)
      all_goals exact ⟨rfl, R2.out, hb.out⟩

end Go.Proofs.YtiogfkpclkkoaaaGreat

set_option linter.unusedVariables false
set_option linter.unusedSimpArgs false
namespace Go.Proofs.YtiogfkpclkkoaaaGreat
open Go.RowKit

attribute [local go_sem] ta_PipeNode

theorem PBody.var_of {w : World} {S : Nat → Prop} {trv : Value} {sub : Nat → Nd → Prop} {n : Nd} {E : TypeId} {cs : Array Value} (h : PBody w S trv sub n E cs) (hk : n.kind = 17) :
    ∃ nv, Strs w S nv n.names ∧ E = 84 ∧ cs = #[.int .i64 18, .int .i64 0, trv, nv] := by
  cases h with
  | var h hn => exact ⟨_, hn, rfl, rfl⟩
  | branch0 h => rcases h with ⟨h, _⟩ | ⟨h, _⟩ | ⟨h, _⟩ <;> (rw [hk] at h; exact absurd h (by decide))
  | branch1 h => rcases h with ⟨h, _⟩ | ⟨h, _⟩ | ⟨h, _⟩ <;> (rw [hk] at h; exact absurd h (by decide))
  | _ h => (rw [hk] at h; exact absurd h (by decide))
theorem Sm.names {d : Nat} {n : Nd} (h : Sm (d + 1) n) : n.names.length ≤ 1048576 := by
  simp only [Sm, wt] at h
  have := length_le_sum (fun s : ByteArray => s.size + 1) n.names (fun _ _ => by omega)
  omega
theorem wr_var_pn {B bt sb d b : Nat} {n : Nd} {l : List UInt8} {w : World} (h : PN w 0 (· < B) (TrIs (some ⟨bt, 0, none⟩)) d b n) (hk : n.kind = 17) (hs : Sm d n) (he : Env B bt sb l w) (hl : l.length + (pr d n).length ≤ 140737488355328) :
    Calls Tryz.prog 96 #[.pointer (some ⟨b, 0, none⟩), .pointer (some ⟨sb, 0, none⟩)] w (WrPost B bt sb w (l ++ pr d n)) := by
  cases d with
  | zero => exact h.elim
  | succ d =>
    obtain ⟨_, _, trv, E, cs, rfl, hh, hbody⟩ := h
    obtain ⟨nv, hx, rfl, rfl⟩ := hbody.var_of hk
    exact wr_var hk hx hs.names hh he hl

set_option maxHeartbeats 4000000 in
set_option maxRecDepth 100000 in
theorem wr_chain_arg {B bt sb b d bq : Nat} {n q : Nd} {l : List UInt8} {nv : Value} {w : World} (ih : WrAt B bt sb d) (h : n.kind = 4) (hk : n.kids = [q]) (hq : PN w 0 (· < B) (TrIs (some ⟨bt, 0, none⟩)) d bq q) (kq : ¬ q.kind = 13) (nq : Nmd d q) (sq : Sm d q) (hx : Strs w (· < B) nv n.names) (hlen : n.names.length ≤ 1048576) (hbB : b < B) (hh : w.heap[b]? = some (.cells #[.int .i64 3, .int .i64 0, .pointer (some ⟨bt, 0, none⟩), .iface (ptrT q.kind) (.pointer (some ⟨bq, 0, none⟩)), nv] 111 (0, 0))) (he : Env B bt sb l w) (hl : l.length + (pr (d + 1) n).length ≤ 140737488355328) :
    Calls Tryz.prog 142 #[.pointer (some ⟨b, 0, none⟩), .pointer (some ⟨sb, 0, none⟩)] w (WrPost B bt sb w (l ++ pr (d + 1) n)) := by
  have e0 : pr (d + 1) n = pr d q ++ dots n.names := by simp [pr, h, hk, firstD, argD, kq]
  rw [e0] at hl ⊢
  simp only [List.length_append, List.length_cons, List.length_nil] at hl
  clear e0 h hk
  obtain ⟨A, c, rfl⟩ := Row.form hx
  have hne := ptrT_ne hq.kindOk kq
  obtain ⟨K, F, hK, hF, mm, ee⟩ := hq.meth (sb := sb)
  rw [hK] at hh hne
  clear kq hK
  have HF := Lib.hid hF
  clear hF
  have HQ := Lib.hid hq
  have NQ := Lib.hid nq
  have SQ := Lib.hid sq
  have IH := Lib.hid ih
  clear hq nq sq ih
  have g0_3 : w.cell? ⟨b, 3, none⟩ = some (.iface K (.pointer (some ⟨bq, 0, none⟩))) := cell_of_heap' hh
  have g0_4 : w.cell? ⟨b, 4, none⟩ = some (.slice A n.names.length c) := cell_of_heap' hh
  generalize n.names = names at *
  have HX := Lib.hid hx
  have HE0 := Lib.hid he
  have HB0 : Hid (Below B w w) := Lib.hid (Below.refl B w)
  have HH0 := Lib.hid hh
  have LB := Lib.hid hbB
  clear hx he hh hbB
  generalize hm : names.length = m at *
  have M := Lib.hid hm
  clear hm
  go_enter Tryz.func142, Tryz.ntmps142
  go_wp2_with fail
  have hc := IH.out bq q _ _ (HQ.out.low HB0.out) NQ.out SQ.out HE0.out (by (try simp only [List.length_append, List.length_cons, List.length_nil, by'_len]); omega)
  rw [HF.out] at hc
  refine Calls.mono hc ?_
  clear hc
  rintro e w1 ⟨rfl, he, hb⟩
  have HE1 := Lib.hid he
  have HB1 := Lib.hid (HB0.out.trans hb)
  have HH1 := Lib.hid (node_later HH0.out LB.out hb)
  have g1_3 : w1.cell? ⟨b, 3, none⟩ = some (.iface K (.pointer (some ⟨bq, 0, none⟩))) := cell_of_heap' HH1.out
  have g1_4 : w1.cell? ⟨b, 4, none⟩ = some (.slice A m c) := cell_of_heap' HH1.out
  clear he hb g0_3 g0_4
  go_wp2_with fail
  have ST := Lib.hid (And.intro HE1.out HB1.out)
  clear g1_3 g1_4
  go_loopw [38] (fun i wr => ∃ k : Nat, k ≤ m ∧ i = .int .i64 k ∧ Hid (Env B bt sb (l ++ pr d q ++ dots (names.take k)) wr) ∧ Hid (Below B w wr)) (fun i _ => m - (intOf i).toNat)
  case atStart => exact ⟨0, Nat.zero_le _, rfl, Lib.hid (by have h := ST.out.1; simpa [dots, List.append_assoc] using h), Lib.hid ST.out.2⟩
  case round =>
    obtain ⟨k, hk, rfl, he, hb⟩ := hrel
    by_cases hltk : k < m
    · have hlt' : k < names.length := by rw [M.out]; exact hltk
      have hx := HX.out.low hb.out
      rw [← M.out] at hx
      obtain ⟨g, o, rfl, _, _, q0⟩ := hx.at hlt'
      have hr := dots_room hlt'
      obtain ⟨s, hs⟩ : ∃ s, names[k] = s := ⟨_, rfl⟩
      rw [hs] at q0 hr
      have HS := Lib.hid hs
      have HE0 := Lib.hid he.out
      have HB0 := Lib.hid hb.out
      clear hx hs he
      go_wp2_with fail
      refine Calls.mono (env_byte HE0.out 46 46 rfl (by (try simp only [List.length_append, List.length_cons, List.length_nil, by'_len]); omega)) ?_
      rintro e w1 ⟨rfl, he1, hb1⟩
      have HE1 := Lib.hid he1
      have HB1 := Lib.hid (HB0.out.trans hb1)
      clear he1 hb1
      go_wp2_with fail
      refine Calls.mono (env_string HE1.out _ (by' s) rfl (by (try simp only [List.length_append, List.length_cons, List.length_nil, by'_len]); omega)) ?_
      rintro e w2 ⟨rfl, he2, hb2⟩
      have HE2 := Lib.hid he2
      have HB2 := Lib.hid (HB1.out.trans hb2)
      clear he2 hb2
      go_wp2_with fail
      go_roundw
      case rel =>
        have r1 : Env B bt sb (l ++ pr d q ++ dots (names.take (k + 1))) w2 := by
          have h := HE2.out
          rw [dots_succ hlt', HS.out]
          simpa [List.append_assoc] using h
        first
          | exact ⟨k + 1, by omega, by go_num, Lib.hid r1, Lib.hid HB2.out⟩
          | ((repeat apply Exists.intro); exact ⟨⟨k + 1, by omega, by go_num, Lib.hid r1, Lib.hid HB2.out⟩, rfl⟩)
      case measure => simp [intOf]; omega
    · have hk' : k = m := by omega
      subst hk'
      have r2 : Env B bt sb (l ++ (pr d q ++ dots names)) wr := by
        have h := he.out
        rw [List.take_of_length_le (by rw [M.out]; exact Nat.le_refl _)] at h
        simpa [List.append_assoc] using h
      have R2 := Lib.hid r2
      clear r2 he
      go_wp2
      all_goals (first | go_end0 | refine bodyPost_ret (results_none rfl _ _ _) rfl ?_)
      all_goals exact ⟨rfl, R2.out, hb.out⟩

set_option maxHeartbeats 4000000 in
set_option maxRecDepth 100000 in
theorem wr_chain_pipe {B bt sb b d bq : Nat} {n q : Nd} {l : List UInt8} {nv : Value} {w : World} (ih : WrAt B bt sb d) (h : n.kind = 4) (hk : n.kids = [q]) (hq : PN w 0 (· < B) (TrIs (some ⟨bt, 0, none⟩)) d bq q) (kq : q.kind = 13) (nq : Nmd d q) (sq : Sm d q) (hx : Strs w (· < B) nv n.names) (hlen : n.names.length ≤ 1048576) (hbB : b < B) (hh : w.heap[b]? = some (.cells #[.int .i64 3, .int .i64 0, .pointer (some ⟨bt, 0, none⟩), .iface (ptrT q.kind) (.pointer (some ⟨bq, 0, none⟩)), nv] 111 (0, 0))) (he : Env B bt sb l w) (hl : l.length + (pr (d + 1) n).length ≤ 140737488355328) :
    Calls Tryz.prog 142 #[.pointer (some ⟨b, 0, none⟩), .pointer (some ⟨sb, 0, none⟩)] w (WrPost B bt sb w (l ++ pr (d + 1) n)) := by
  have e0 : pr (d + 1) n = 40 :: (pr d q ++ [41]) ++ dots n.names := by simp [pr, h, hk, firstD, argD, kq]
  rw [e0] at hl ⊢
  simp only [List.length_append, List.length_cons, List.length_nil] at hl
  clear e0 h hk
  obtain ⟨A, c, rfl⟩ := Row.form hx
  have KQ : Hid (q.kind = ((13 : Nat) : Int)) := Lib.hid kq
  rw [kq, show ptrT 13 = 90 from rfl] at hh
  clear kq
  obtain ⟨K, F, hK, hF, mm, ee⟩ := hq.meth (sb := sb)
  rw [KQ.out, show ptrT ((13 : Nat) : Int) = 90 from rfl] at hK
  subst hK
  have HF := Lib.hid hF
  clear hF
  have HQ := Lib.hid hq
  have NQ := Lib.hid nq
  have SQ := Lib.hid sq
  have IH := Lib.hid ih
  clear hq nq sq ih
  have g0_3 : w.cell? ⟨b, 3, none⟩ = some (.iface 90 (.pointer (some ⟨bq, 0, none⟩))) := cell_of_heap' hh
  have g0_4 : w.cell? ⟨b, 4, none⟩ = some (.slice A n.names.length c) := cell_of_heap' hh
  generalize n.names = names at *
  have HX := Lib.hid hx
  have HE0 := Lib.hid he
  have HB0 : Hid (Below B w w) := Lib.hid (Below.refl B w)
  have HH0 := Lib.hid hh
  have LB := Lib.hid hbB
  clear hx he hh hbB
  generalize hm : names.length = m at *
  have M := Lib.hid hm
  clear hm
  go_enter Tryz.func142, Tryz.ntmps142
  go_wp2_with fail
  refine Calls.mono (env_byte HE0.out 40 40 rfl (by (try simp only [List.length_append, List.length_cons, List.length_nil, by'_len]); omega)) ?_
  rintro e w1 ⟨rfl, he, hb⟩
  have HE1 := Lib.hid he
  have HB1 := Lib.hid (HB0.out.trans hb)
  have HH1 := Lib.hid (node_later HH0.out LB.out hb)
  have g1_3 : w1.cell? ⟨b, 3, none⟩ = some (.iface 90 (.pointer (some ⟨bq, 0, none⟩))) := cell_of_heap' HH1.out
  have g1_4 : w1.cell? ⟨b, 4, none⟩ = some (.slice A m c) := cell_of_heap' HH1.out
  clear he hb g0_3 g0_4
  go_wp2_with fail
  have hc := IH.out bq q _ _ (HQ.out.low HB1.out) NQ.out SQ.out HE1.out (by (try simp only [List.length_append, List.length_cons, List.length_nil, by'_len]); omega)
  rw [HF.out] at hc
  refine Calls.mono hc ?_
  clear hc
  rintro e w2 ⟨rfl, he, hb⟩
  have HE2 := Lib.hid he
  have HB2 := Lib.hid (HB1.out.trans hb)
  have HH2 := Lib.hid (node_later HH1.out LB.out hb)
  have g2_3 : w2.cell? ⟨b, 3, none⟩ = some (.iface 90 (.pointer (some ⟨bq, 0, none⟩))) := cell_of_heap' HH2.out
  have g2_4 : w2.cell? ⟨b, 4, none⟩ = some (.slice A m c) := cell_of_heap' HH2.out
  clear he hb g1_3 g1_4
  go_wp2_with fail
  refine Calls.mono (env_byte HE2.out 41 41 rfl (by (try simp only [List.length_append, List.length_cons, List.length_nil, by'_len]); omega)) ?_
  rintro e w3 ⟨rfl, he, hb⟩
  have HE3 := Lib.hid he
  have HB3 := Lib.hid (HB2.out.trans hb)
  have HH3 := Lib.hid (node_later HH2.out LB.out hb)
  have g3_3 : w3.cell? ⟨b, 3, none⟩ = some (.iface 90 (.pointer (some ⟨bq, 0, none⟩))) := cell_of_heap' HH3.out
  have g3_4 : w3.cell? ⟨b, 4, none⟩ = some (.slice A m c) := cell_of_heap' HH3.out
  clear he hb g2_3 g2_4
  go_wp2_with fail
  have ST := Lib.hid (And.intro HE3.out HB3.out)
  clear g3_3 g3_4
  go_loopw [38] (fun i wr => ∃ k : Nat, k ≤ m ∧ i = .int .i64 k ∧ Hid (Env B bt sb (l ++ [40] ++ pr d q ++ [41] ++ dots (names.take k)) wr) ∧ Hid (Below B w wr)) (fun i _ => m - (intOf i).toNat)
  case atStart => exact ⟨0, Nat.zero_le _, rfl, Lib.hid (by have h := ST.out.1; simpa [dots, List.append_assoc] using h), Lib.hid ST.out.2⟩
  case round =>
    obtain ⟨k, hk, rfl, he, hb⟩ := hrel
    by_cases hltk : k < m
    · have hlt' : k < names.length := by rw [M.out]; exact hltk
      have hx := HX.out.low hb.out
      rw [← M.out] at hx
      obtain ⟨g, o, rfl, _, _, q0⟩ := hx.at hlt'
      have hr := dots_room hlt'
      obtain ⟨s, hs⟩ : ∃ s, names[k] = s := ⟨_, rfl⟩
      rw [hs] at q0 hr
      have HS := Lib.hid hs
      have HE0 := Lib.hid he.out
      have HB0 := Lib.hid hb.out
      clear hx hs he
      go_wp2_with fail
      refine Calls.mono (env_byte HE0.out 46 46 rfl (by (try simp only [List.length_append, List.length_cons, List.length_nil, by'_len]); omega)) ?_
      rintro e w1 ⟨rfl, he1, hb1⟩
      have HE1 := Lib.hid he1
      have HB1 := Lib.hid (HB0.out.trans hb1)
      clear he1 hb1
      go_wp2_with fail
      refine Calls.mono (env_string HE1.out _ (by' s) rfl (by (try simp only [List.length_append, List.length_cons, List.length_nil, by'_len]); omega)) ?_
      rintro e w2 ⟨rfl, he2, hb2⟩
      have HE2 := Lib.hid he2
      have HB2 := Lib.hid (HB1.out.trans hb2)
      clear he2 hb2
      go_wp2_with fail
      go_roundw
      case rel =>
        have r1 : Env B bt sb (l ++ [40] ++ pr d q ++ [41] ++ dots (names.take (k + 1))) w2 := by
          have h := HE2.out
          rw [dots_succ hlt', HS.out]
          simpa [List.append_assoc] using h
        first
          | exact ⟨k + 1, by omega, by go_num, Lib.hid r1, Lib.hid HB2.out⟩
          | ((repeat apply Exists.intro); exact ⟨⟨k + 1, by omega, by go_num, Lib.hid r1, Lib.hid HB2.out⟩, rfl⟩)
      case measure => simp [intOf]; omega
    · have hk' : k = m := by omega
      subst hk'
      have r2 : Env B bt sb (l ++ (40 :: (pr d q ++ [41]) ++ dots names)) wr := by
        have h := he.out
        rw [List.take_of_length_le (by rw [M.out]; exact Nat.le_refl _)] at h
        simpa [List.append_assoc] using h
      have R2 := Lib.hid r2
      clear r2 he
      go_wp2
      all_goals (first | go_end0 | refine bodyPost_ret (results_none rfl _ _ _) rfl ?_)
      all_goals exact ⟨rfl, R2.out, hb.out⟩

set_option maxHeartbeats 4000000 in
set_option maxRecDepth 100000 in
theorem wr_pipe0 {B bt sb b d : Nat} {n : Nd} {l : List UInt8} {dv kv : Value} {w : World} (ih : WrAt B bt sb d) (h : n.kind = 13) (hd : ∀ p ∈ n.decl, p.kind = 17) (hk : ∀ p ∈ n.kids, p.kind = ((5 : Nat) : Int)) (rd : RowP w (· < B) 83 ptrf (PN w 0 (· < B) (TrIs (some ⟨bt, 0, none⟩)) d) dv n.decl) (rk : RowP w (· < B) 103 ptrf (PN w 0 (· < B) (TrIs (some ⟨bt, 0, none⟩)) d) kv n.kids) (hdl : n.decl = []) (hlend : n.decl.length ≤ 1048576) (hlen : n.kids.length ≤ 1048576) (nk : ∀ p ∈ n.kids, Nmd d p) (sk : ∀ p ∈ n.kids, Sm d p) (sd : ∀ p ∈ n.decl, Sm d p) (hbB : b < B) (hh : w.heap[b]? = some (.cells #[.int .i64 14, .int .i64 0, .pointer (some ⟨bt, 0, none⟩), .int .i64 0, .bool n.assign, dv, kv] 138 (0, 0))) (he : Env B bt sb l w) (hl : l.length + (pr (d + 1) n).length ≤ 140737488355328) :
    Calls Tryz.prog 108 #[.pointer (some ⟨b, 0, none⟩), .pointer (some ⟨sb, 0, none⟩)] w (WrPost B bt sb w (l ++ pr (d + 1) n)) := by
  have e0 : pr (d + 1) n = joinL [32, 124, 32] (n.kids.map (pr d)) := by simp [pr, h, hdl]
  rw [e0] at hl ⊢
  clear e0 h
  obtain ⟨A, c, rfl⟩ := rd.form
  obtain ⟨A', c', rfl⟩ := rk.form
  have g5 : w.cell? ⟨b, 5, none⟩ = some (.slice A n.decl.length c) := cell_of_heap' hh
  have g6 : w.cell? ⟨b, 6, none⟩ = some (.slice A' n.kids.length c') := cell_of_heap' hh
  generalize n.kids = kids at *
  rw [hdl] at g5
  rw [show ([] : List Nd).length = 0 from rfl] at g5
  clear hdl hd sd rd hlend
  have HX := Lib.hid rk
  have KK := Lib.hid hk
  have NK := Lib.hid nk
  have SK := Lib.hid sk
  have IH := Lib.hid ih
  have HH0 := Lib.hid hh
  have LB := Lib.hid hbB
  have ST := Lib.hid (And.intro he (Below.refl B w))
  clear rk hk nk sk ih hh hbB he
  generalize hm : kids.length = m at *
  have M := Lib.hid hm
  clear hm
  go_enter Tryz.func108, Tryz.ntmps108
  go_wp2_with fail
  go_loopw [45] (fun i wr => ∃ k : Nat, k ≤ m ∧ i = .int .i64 k ∧ Hid (Env B bt sb (l ++ joinK [32, 124, 32] (pr d) k kids) wr) ∧ Hid (Below B w wr)) (fun i _ => m - (intOf i).toNat)
  case atStart => exact ⟨0, Nat.zero_le _, rfl, Lib.hid (by rw [joinK_zero, List.append_nil]; exact ST.out.1), Lib.hid ST.out.2⟩
  case round =>
    obtain ⟨k, hk, rfl, he, hb⟩ := hrel
    by_cases hltk : k < m
    · have hlt' : k < kids.length := by rw [M.out]; exact hltk
      have hx := HX.out.low hb.out
      rw [← M.out] at hx
      obtain ⟨g, b', p', hp, rfl, q0, hpn⟩ := hx.at hlt'
      have hmem : p' ∈ kids := by rw [← hp]; exact List.getElem_mem _
      unfold ptrf at q0
      have HN := Lib.hid hpn
      have SK' := Lib.hid (SK.out p' hmem)
      have KK' := Lib.hid (KK.out p' hmem)
      have NK' := Lib.hid (NK.out p' hmem)
      have HP := Lib.hid hp
      have HE0 := Lib.hid he.out
      have HB0 := Lib.hid hb.out
      have BW0 := Lib.hid (Below.refl B wr)
      clear hx he hpn hmem
      by_cases hk0 : k = 0
      · subst hk0
        have hr := joinK_room0 [32, 124, 32] (pr d) hlt'
        rw [hp] at hr
        simp only [joinK_zero, List.append_nil] at HE0 hr
        clear hp
        rw [show ((0 : Nat) : Int) = (0 : Int) from rfl]
        go_wp2_with fail
        refine Calls.mono (wr_at IH.out KK'.out (HN.out.low BW0.out) NK'.out SK'.out HE0.out (by (try simp only [List.length_append, List.length_cons, List.length_nil, by'_len]); omega)) ?_
        rintro e w1 ⟨rfl, he1, hb1⟩
        have HE1 := Lib.hid he1
        have HB1 := Lib.hid (HB0.out.trans hb1)
        have BW1 := Lib.hid (BW0.out.trans hb1)
        clear he1 hb1
        go_wp2_with fail
        go_roundw
        case rel =>
          have r1 : Env B bt sb (l ++ joinK [32, 124, 32] (pr d) (0 + 1) kids) w1 := by
            have h := HE1.out
            rw [joinK_one _ _ hlt', HP.out]
            simpa [List.append_assoc] using h
          first
            | exact ⟨0 + 1, by omega, by rfl, Lib.hid r1, Lib.hid HB1.out⟩
            | ((repeat apply Exists.intro); exact ⟨⟨0 + 1, by omega, by rfl, Lib.hid r1, Lib.hid HB1.out⟩, rfl⟩)
        case measure => simp [intOf]; omega
      · have hk1 : 0 < k := by omega
        have hr := joinK_room [32, 124, 32] (pr d) hlt' hk1
        rw [hp] at hr
        simp only [List.length_cons, List.length_nil] at hr
        clear hp
        go_wp2_with fail
        refine Calls.mono (env_string HE0.out _ [32, 124, 32] rfl (by (try simp only [List.length_append, List.length_cons, List.length_nil, by'_len]); omega)) ?_
        rintro e w1 ⟨rfl, he1, hb1⟩
        have HE1 := Lib.hid he1
        have HB1 := Lib.hid (HB0.out.trans hb1)
        have BW1 := Lib.hid (BW0.out.trans hb1)
        clear he1 hb1
        go_wp2_with fail
        refine Calls.mono (wr_at IH.out KK'.out (HN.out.low BW1.out) NK'.out SK'.out HE1.out (by (try simp only [List.length_append, List.length_cons, List.length_nil, by'_len]); omega)) ?_
        rintro e w2 ⟨rfl, he2, hb2⟩
        have HE2 := Lib.hid he2
        have HB2 := Lib.hid (HB1.out.trans hb2)
        have BW2 := Lib.hid (BW1.out.trans hb2)
        clear he2 hb2
        go_wp2_with fail
        go_roundw
        case rel =>
          have r1 : Env B bt sb (l ++ joinK [32, 124, 32] (pr d) (k + 1) kids) w2 := by
            have h := HE2.out
            rw [joinK_succ _ _ hlt' hk1, HP.out]
            simpa [List.append_assoc] using h
          first
            | exact ⟨k + 1, by omega, by go_num, Lib.hid r1, Lib.hid HB2.out⟩
            | ((repeat apply Exists.intro); exact ⟨⟨k + 1, by omega, by go_num, Lib.hid r1, Lib.hid HB2.out⟩, rfl⟩)
        case measure => simp [intOf]; omega
    · have hk' : k = m := by omega
      subst hk'
      have r2 : Env B bt sb (l ++ (joinL [32, 124, 32] (kids.map (pr d)))) wr := by
        have h := he.out
        rw [joinK_all _ _ M.out] at h
        simpa [List.append_assoc, asgD] using h
      have R2 := Lib.hid r2
      clear r2 he
      go_wp2
      all_goals (first | go_end0 | refine bodyPost_ret (results_none rfl _ _ _) rfl ?_)
      all_goals exact ⟨rfl, R2.out, hb.out⟩

set_option maxHeartbeats 4000000 in
set_option maxRecDepth 100000 in
theorem wr_pipe1 {B bt sb b d : Nat} {n : Nd} {l : List UInt8} {dv kv : Value} {w : World} (ih : WrAt B bt sb d) (h : n.kind = 13) (hd : ∀ p ∈ n.decl, p.kind = 17) (hk : ∀ p ∈ n.kids, p.kind = ((5 : Nat) : Int)) (rd : RowP w (· < B) 83 ptrf (PN w 0 (· < B) (TrIs (some ⟨bt, 0, none⟩)) d) dv n.decl) (rk : RowP w (· < B) 103 ptrf (PN w 0 (· < B) (TrIs (some ⟨bt, 0, none⟩)) d) kv n.kids) (hdl : 0 < n.decl.length) (hlend : n.decl.length ≤ 1048576) (hlen : n.kids.length ≤ 1048576) (nk : ∀ p ∈ n.kids, Nmd d p) (sk : ∀ p ∈ n.kids, Sm d p) (sd : ∀ p ∈ n.decl, Sm d p) (hbB : b < B) (hh : w.heap[b]? = some (.cells #[.int .i64 14, .int .i64 0, .pointer (some ⟨bt, 0, none⟩), .int .i64 0, .bool n.assign, dv, kv] 138 (0, 0))) (he : Env B bt sb l w) (hl : l.length + (pr (d + 1) n).length ≤ 140737488355328) :
    Calls Tryz.prog 108 #[.pointer (some ⟨b, 0, none⟩), .pointer (some ⟨sb, 0, none⟩)] w (WrPost B bt sb w (l ++ pr (d + 1) n)) := by
  have hne : n.decl ≠ [] := fun e => by rw [e] at hdl; simp at hdl
  have e0 : pr (d + 1) n = joinL [44, 32] (n.decl.map (pr d)) ++ asgD n.assign ++ joinL [32, 124, 32] (n.kids.map (pr d)) := by simp [pr, h, hne, asgD]
  rw [e0] at hl ⊢
  clear e0 h hne
  obtain ⟨A, c, rfl⟩ := rd.form
  obtain ⟨A', c', rfl⟩ := rk.form
  have g5 : w.cell? ⟨b, 5, none⟩ = some (.slice A n.decl.length c) := cell_of_heap' hh
  have g6 : w.cell? ⟨b, 6, none⟩ = some (.slice A' n.kids.length c') := cell_of_heap' hh
  generalize n.kids = kids at *
  generalize n.decl = decl at *
  generalize n.assign = asg at *
  have HX := Lib.hid rk
  have KK := Lib.hid hk
  have NK := Lib.hid nk
  have SK := Lib.hid sk
  have IH := Lib.hid ih
  have HH0 := Lib.hid hh
  have LB := Lib.hid hbB
  have ST := Lib.hid (And.intro he (Below.refl B w))
  clear rk hk nk sk ih hh hbB he
  have HXd := Lib.hid rd
  have KKd := Lib.hid hd
  have SKd := Lib.hid sd
  clear rd hd sd
  generalize hmd : decl.length = md at *
  have Md := Lib.hid hmd
  clear hmd
  have hdl' : (0 : Int) < md := by omega
  generalize hm : kids.length = m at *
  have M := Lib.hid hm
  clear hm
  have HL := Lib.hid hl
  have hlx : l.length + (joinL [44, 32] (decl.map (pr d))).length ≤ 140737488355328 := by simp only [List.length_append] at hl; omega
  clear hl
  go_enter Tryz.func108, Tryz.ntmps108
  go_wp2_with fail
  go_loopw [19] (fun i wr => ∃ k : Nat, k ≤ md ∧ i = .int .i64 k ∧ Hid (Env B bt sb (l ++ joinK [44, 32] (pr d) k decl) wr) ∧ Hid (Below B w wr)) (fun i _ => md - (intOf i).toNat)
  case atStart => exact ⟨0, Nat.zero_le _, rfl, Lib.hid (by rw [joinK_zero, List.append_nil]; exact ST.out.1), Lib.hid ST.out.2⟩
  case round =>
    obtain ⟨k, hk, rfl, he, hb⟩ := hrel
    by_cases hltk : k < md
    · have hlt' : k < decl.length := by rw [Md.out]; exact hltk
      have hx := HXd.out.low hb.out
      rw [← Md.out] at hx
      obtain ⟨g, b', p', hp, rfl, q0, hpn⟩ := hx.at hlt'
      have hmem : p' ∈ decl := by rw [← hp]; exact List.getElem_mem _
      unfold ptrf at q0
      have HN := Lib.hid hpn
      have SK' := Lib.hid (SKd.out p' hmem)
      have KK' := Lib.hid (KKd.out p' hmem)
      have HP := Lib.hid hp
      have HE0 := Lib.hid he.out
      have HB0 := Lib.hid hb.out
      have BW0 := Lib.hid (Below.refl B wr)
      clear hx he hpn hmem
      by_cases hk0 : k = 0
      · subst hk0
        have hr := joinK_room0 [44, 32] (pr d) hlt'
        rw [hp] at hr
        simp only [joinK_zero, List.append_nil] at HE0 hr
        clear hp
        rw [show ((0 : Nat) : Int) = (0 : Int) from rfl]
        go_wp2_with fail
        refine Calls.mono (wr_var_pn (HN.out.low BW0.out) KK'.out SK'.out HE0.out (by (try simp only [List.length_append, List.length_cons, List.length_nil, by'_len]); omega)) ?_
        rintro e w1 ⟨rfl, he1, hb1⟩
        have HE1 := Lib.hid he1
        have HB1 := Lib.hid (HB0.out.trans hb1)
        have BW1 := Lib.hid (BW0.out.trans hb1)
        clear he1 hb1
        go_wp2_with fail
        go_roundw
        case rel =>
          have r1 : Env B bt sb (l ++ joinK [44, 32] (pr d) (0 + 1) decl) w1 := by
            have h := HE1.out
            rw [joinK_one _ _ hlt', HP.out]
            simpa [List.append_assoc] using h
          first
            | exact ⟨0 + 1, by omega, by rfl, Lib.hid r1, Lib.hid HB1.out⟩
            | ((repeat apply Exists.intro); exact ⟨⟨0 + 1, by omega, by rfl, Lib.hid r1, Lib.hid HB1.out⟩, rfl⟩)
        case measure => simp [intOf]; omega
      · have hk1 : 0 < k := by omega
        have hr := joinK_room [44, 32] (pr d) hlt' hk1
        rw [hp] at hr
        simp only [List.length_cons, List.length_nil] at hr
        clear hp
        go_wp2_with fail
        refine Calls.mono (env_string HE0.out _ [44, 32] rfl (by (try simp only [List.length_append, List.length_cons, List.length_nil, by'_len]); omega)) ?_
        rintro e w1 ⟨rfl, he1, hb1⟩
        have HE1 := Lib.hid he1
        have HB1 := Lib.hid (HB0.out.trans hb1)
        have BW1 := Lib.hid (BW0.out.trans hb1)
        clear he1 hb1
        go_wp2_with fail
        refine Calls.mono (wr_var_pn (HN.out.low BW1.out) KK'.out SK'.out HE1.out (by (try simp only [List.length_append, List.length_cons, List.length_nil, by'_len]); omega)) ?_
        rintro e w2 ⟨rfl, he2, hb2⟩
        have HE2 := Lib.hid he2
        have HB2 := Lib.hid (HB1.out.trans hb2)
        have BW2 := Lib.hid (BW1.out.trans hb2)
        clear he2 hb2
        go_wp2_with fail
        go_roundw
        case rel =>
          have r1 : Env B bt sb (l ++ joinK [44, 32] (pr d) (k + 1) decl) w2 := by
            have h := HE2.out
            rw [joinK_succ _ _ hlt' hk1, HP.out]
            simpa [List.append_assoc] using h
          first
            | exact ⟨k + 1, by omega, by go_num, Lib.hid r1, Lib.hid HB2.out⟩
            | ((repeat apply Exists.intro); exact ⟨⟨k + 1, by omega, by go_num, Lib.hid r1, Lib.hid HB2.out⟩, rfl⟩)
        case measure => simp [intOf]; omega
    · have hk' : k = md := by omega
      subst hk'
      have HE9 := Lib.hid he.out
      have HB9 := Lib.hid hb.out
      have HH9 := Lib.hid (node_later HH0.out LB.out hb.out)
      have hd9 := HE9.out
      rw [joinK_all _ _ Md.out] at hd9
      have HD9 := Lib.hid hd9
      have g4 : wr.cell? ⟨b, 4, none⟩ = some (.bool asg) := cell_of_heap' HH9.out
      clear he hb hd9 HE9 g5 g6
      cases asg
      · have hl := HL.out
        simp only [asgD, Bool.false_eq_true, if_false, List.length_append, List.length_cons, List.length_nil] at hl
        go_wp2_with fail
        refine Calls.mono (env_string HD9.out _ [32, 58, 61, 32] rfl (by (try simp only [List.length_append, List.length_cons, List.length_nil, by'_len]); omega)) ?_
        rintro e w8 ⟨rfl, he8, hb8⟩
        have ST8 := Lib.hid (And.intro he8 (HB9.out.trans hb8))
        have g6 : w8.cell? ⟨b, 6, none⟩ = some (.slice A' m c') := cell_of_heap' (node_later HH9.out LB.out hb8)
        clear he8 hb8 g4
        go_wp2_with fail
        go_loopw [45] (fun i wr => ∃ k : Nat, k ≤ m ∧ i = .int .i64 k ∧ Hid (Env B bt sb (l ++ joinL [44, 32] (decl.map (pr d)) ++ [32, 58, 61, 32] ++ joinK [32, 124, 32] (pr d) k kids) wr) ∧ Hid (Below B w wr)) (fun i _ => m - (intOf i).toNat)
        case atStart => exact ⟨0, Nat.zero_le _, rfl, Lib.hid (by rw [joinK_zero, List.append_nil]; exact ST8.out.1), Lib.hid ST8.out.2⟩
        case round =>
          obtain ⟨k, hk, rfl, he, hb⟩ := hrel
          by_cases hltk : k < m
          · have hlt' : k < kids.length := by rw [M.out]; exact hltk
            have hx := HX.out.low hb.out
            rw [← M.out] at hx
            obtain ⟨g, b', p', hp, rfl, q0, hpn⟩ := hx.at hlt'
            have hmem : p' ∈ kids := by rw [← hp]; exact List.getElem_mem _
            unfold ptrf at q0
            have HN := Lib.hid hpn
            have SK' := Lib.hid (SK.out p' hmem)
            have KK' := Lib.hid (KK.out p' hmem)
            have NK' := Lib.hid (NK.out p' hmem)
            have HP := Lib.hid hp
            have HE0 := Lib.hid he.out
            have HB0 := Lib.hid hb.out
            have BW0 := Lib.hid (Below.refl B wr)
            clear hx he hpn hmem
            by_cases hk0 : k = 0
            · subst hk0
              have hr := joinK_room0 [32, 124, 32] (pr d) hlt'
              rw [hp] at hr
              simp only [joinK_zero, List.append_nil] at HE0 hr
              clear hp
              rw [show ((0 : Nat) : Int) = (0 : Int) from rfl]
              go_wp2_with fail
              refine Calls.mono (wr_at IH.out KK'.out (HN.out.low BW0.out) NK'.out SK'.out HE0.out (by (try simp only [List.length_append, List.length_cons, List.length_nil, by'_len]); omega)) ?_
              rintro e w1 ⟨rfl, he1, hb1⟩
              have HE1 := Lib.hid he1
              have HB1 := Lib.hid (HB0.out.trans hb1)
              have BW1 := Lib.hid (BW0.out.trans hb1)
              clear he1 hb1
              go_wp2_with fail
              go_roundw
              case rel =>
                have r1 : Env B bt sb (l ++ joinL [44, 32] (decl.map (pr d)) ++ [32, 58, 61, 32] ++ joinK [32, 124, 32] (pr d) (0 + 1) kids) w1 := by
                  have h := HE1.out
                  rw [joinK_one _ _ hlt', HP.out]
                  simpa [List.append_assoc] using h
                first
                  | exact ⟨0 + 1, by omega, by rfl, Lib.hid r1, Lib.hid HB1.out⟩
                  | ((repeat apply Exists.intro); exact ⟨⟨0 + 1, by omega, by rfl, Lib.hid r1, Lib.hid HB1.out⟩, rfl⟩)
              case measure => simp [intOf]; omega
            · have hk1 : 0 < k := by omega
              have hr := joinK_room [32, 124, 32] (pr d) hlt' hk1
              rw [hp] at hr
              simp only [List.length_cons, List.length_nil] at hr
              clear hp
              go_wp2_with fail
              refine Calls.mono (env_string HE0.out _ [32, 124, 32] rfl (by (try simp only [List.length_append, List.length_cons, List.length_nil, by'_len]); omega)) ?_
              rintro e w1 ⟨rfl, he1, hb1⟩
              have HE1 := Lib.hid he1
              have HB1 := Lib.hid (HB0.out.trans hb1)
              have BW1 := Lib.hid (BW0.out.trans hb1)
              clear he1 hb1
              go_wp2_with fail
              refine Calls.mono (wr_at IH.out KK'.out (HN.out.low BW1.out) NK'.out SK'.out HE1.out (by (try simp only [List.length_append, List.length_cons, List.length_nil, by'_len]); omega)) ?_
              rintro e w2 ⟨rfl, he2, hb2⟩
              have HE2 := Lib.hid he2
              have HB2 := Lib.hid (HB1.out.trans hb2)
              have BW2 := Lib.hid (BW1.out.trans hb2)
              clear he2 hb2
              go_wp2_with fail
              go_roundw
              case rel =>
                have r1 : Env B bt sb (l ++ joinL [44, 32] (decl.map (pr d)) ++ [32, 58, 61, 32] ++ joinK [32, 124, 32] (pr d) (k + 1) kids) w2 := by
                  have h := HE2.out
                  rw [joinK_succ _ _ hlt' hk1, HP.out]
                  simpa [List.append_assoc] using h
                first
                  | exact ⟨k + 1, by omega, by go_num, Lib.hid r1, Lib.hid HB2.out⟩
                  | ((repeat apply Exists.intro); exact ⟨⟨k + 1, by omega, by go_num, Lib.hid r1, Lib.hid HB2.out⟩, rfl⟩)
              case measure => simp [intOf]; omega
          · have hk' : k = m := by omega
            subst hk'
            have r2 : Env B bt sb (l ++ (joinL [44, 32] (decl.map (pr d)) ++ asgD false ++ joinL [32, 124, 32] (kids.map (pr d)))) wr := by
              have h := he.out
              rw [joinK_all _ _ M.out] at h
              simpa [List.append_assoc, asgD] using h
            have R2 := Lib.hid r2
            clear r2 he
            go_wp2
            all_goals (first | go_end0 | refine bodyPost_ret (results_none rfl _ _ _) rfl ?_)
            all_goals exact ⟨rfl, R2.out, hb.out⟩
      · have hl := HL.out
        simp only [asgD, if_true, List.length_append, List.length_cons, List.length_nil] at hl
        go_wp2_with fail
        refine Calls.mono (env_string HD9.out _ [32, 61, 32] rfl (by (try simp only [List.length_append, List.length_cons, List.length_nil, by'_len]); omega)) ?_
        rintro e w8 ⟨rfl, he8, hb8⟩
        have ST8 := Lib.hid (And.intro he8 (HB9.out.trans hb8))
        have g6 : w8.cell? ⟨b, 6, none⟩ = some (.slice A' m c') := cell_of_heap' (node_later HH9.out LB.out hb8)
        clear he8 hb8 g4
        go_wp2_with fail
        go_loopw [45] (fun i wr => ∃ k : Nat, k ≤ m ∧ i = .int .i64 k ∧ Hid (Env B bt sb (l ++ joinL [44, 32] (decl.map (pr d)) ++ [32, 61, 32] ++ joinK [32, 124, 32] (pr d) k kids) wr) ∧ Hid (Below B w wr)) (fun i _ => m - (intOf i).toNat)
        case atStart => exact ⟨0, Nat.zero_le _, rfl, Lib.hid (by rw [joinK_zero, List.append_nil]; exact ST8.out.1), Lib.hid ST8.out.2⟩
        case round =>
          obtain ⟨k, hk, rfl, he, hb⟩ := hrel
          by_cases hltk : k < m
          · have hlt' : k < kids.length := by rw [M.out]; exact hltk
            have hx := HX.out.low hb.out
            rw [← M.out] at hx
            obtain ⟨g, b', p', hp, rfl, q0, hpn⟩ := hx.at hlt'
            have hmem : p' ∈ kids := by rw [← hp]; exact List.getElem_mem _
            unfold ptrf at q0
            have HN := Lib.hid hpn
            have SK' := Lib.hid (SK.out p' hmem)
            have KK' := Lib.hid (KK.out p' hmem)
            have NK' := Lib.hid (NK.out p' hmem)
            have HP := Lib.hid hp
            have HE0 := Lib.hid he.out
            have HB0 := Lib.hid hb.out
            have BW0 := Lib.hid (Below.refl B wr)
            clear hx he hpn hmem
            by_cases hk0 : k = 0
            · subst hk0
              have hr := joinK_room0 [32, 124, 32] (pr d) hlt'
              rw [hp] at hr
              simp only [joinK_zero, List.append_nil] at HE0 hr
              clear hp
              rw [show ((0 : Nat) : Int) = (0 : Int) from rfl]
              go_wp2_with fail
              refine Calls.mono (wr_at IH.out KK'.out (HN.out.low BW0.out) NK'.out SK'.out HE0.out (by (try simp only [List.length_append, List.length_cons, List.length_nil, by'_len]); omega)) ?_
              rintro e w1 ⟨rfl, he1, hb1⟩
              have HE1 := Lib.hid he1
              have HB1 := Lib.hid (HB0.out.trans hb1)
              have BW1 := Lib.hid (BW0.out.trans hb1)
              clear he1 hb1
              go_wp2_with fail
              go_roundw
              case rel =>
                have r1 : Env B bt sb (l ++ joinL [44, 32] (decl.map (pr d)) ++ [32, 61, 32] ++ joinK [32, 124, 32] (pr d) (0 + 1) kids) w1 := by
                  have h := HE1.out
                  rw [joinK_one _ _ hlt', HP.out]
                  simpa [List.append_assoc] using h
                first
                  | exact ⟨0 + 1, by omega, by rfl, Lib.hid r1, Lib.hid HB1.out⟩
                  | ((repeat apply Exists.intro); exact ⟨⟨0 + 1, by omega, by rfl, Lib.hid r1, Lib.hid HB1.out⟩, rfl⟩)
              case measure => simp [intOf]; omega
            · have hk1 : 0 < k := by omega
              have hr := joinK_room [32, 124, 32] (pr d) hlt' hk1
              rw [hp] at hr
              simp only [List.length_cons, List.length_nil] at hr
              clear hp
              go_wp2_with fail
              refine Calls.mono (env_string HE0.out _ [32, 124, 32] rfl (by (try simp only [List.length_append, List.length_cons, List.length_nil, by'_len]); omega)) ?_
              rintro e w1 ⟨rfl, he1, hb1⟩
              have HE1 := Lib.hid he1
              have HB1 := Lib.hid (HB0.out.trans hb1)
              have BW1 := Lib.hid (BW0.out.trans hb1)
              clear he1 hb1
              go_wp2_with fail
              refine Calls.mono (wr_at IH.out KK'.out (HN.out.low BW1.out) NK'.out SK'.out HE1.out (by (try simp only [List.length_append, List.length_cons, List.length_nil, by'_len]); omega)) ?_
              rintro e w2 ⟨rfl, he2, hb2⟩
              have HE2 := Lib.hid he2
              have HB2 := Lib.hid (HB1.out.trans hb2)
              have BW2 := Lib.hid (BW1.out.trans hb2)
              clear he2 hb2
              go_wp2_with fail
              go_roundw
              case rel =>
                have r1 : Env B bt sb (l ++ joinL [44, 32] (decl.map (pr d)) ++ [32, 61, 32] ++ joinK [32, 124, 32] (pr d) (k + 1) kids) w2 := by
                  have h := HE2.out
                  rw [joinK_succ _ _ hlt' hk1, HP.out]
                  simpa [List.append_assoc] using h
                first
                  | exact ⟨k + 1, by omega, by go_num, Lib.hid r1, Lib.hid HB2.out⟩
                  | ((repeat apply Exists.intro); exact ⟨⟨k + 1, by omega, by go_num, Lib.hid r1, Lib.hid HB2.out⟩, rfl⟩)
              case measure => simp [intOf]; omega
          · have hk' : k = m := by omega
            subst hk'
            have r2 : Env B bt sb (l ++ (joinL [44, 32] (decl.map (pr d)) ++ asgD true ++ joinL [32, 124, 32] (kids.map (pr d)))) wr := by
              have h := he.out
              rw [joinK_all _ _ M.out] at h
              simpa [List.append_assoc, asgD] using h
            have R2 := Lib.hid r2
            clear r2 he
            go_wp2
            all_goals (first | go_end0 | refine bodyPost_ret (results_none rfl _ _ _) rfl ?_)
            all_goals exact ⟨rfl, R2.out, hb.out⟩

end Go.Proofs.YtiogfkpclkkoaaaGreat
