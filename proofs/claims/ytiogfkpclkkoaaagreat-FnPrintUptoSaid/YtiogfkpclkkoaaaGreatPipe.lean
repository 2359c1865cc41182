/-
  The walk of impl.pipe.
-/
import Derived.Test.YtiogfkpclkkoaaaGreatFactsP
import Derived.Test.YtiogfkpclkkoaaaGreatAsserts
set_option linter.unusedVariables false
set_option linter.unusedSimpArgs false
namespace Go.Proofs.YtiogfkpclkkoaaaGreat
open Go.RowKit

attribute [local go_sem ↓] stN ldN
attribute [local go_sem] run_stN run_ldN_new ta_VariableNode ta_CommandNode

set_option maxHeartbeats 2000000 in
set_option maxRecDepth 100000 in
theorem pipe_step (B d : Nat) (ih : ∀ cs n w, IN w (· < B) d cs n → Sm d n → Shp d n → B ≤ w.heap.size → Calls Tryz.prog 16 #[.agg cs.toArray] w (BuiltPost w B d n))
    (t v : ByteArray) (names : List ByteArray) (tru asg : Bool) (decl kids els : List Nd) (b3 : Bool) (num : Int) (ex : Bool) (w : World) (nv dv kv ev : Value)
    (h2 : Row w (· < B) 17 (IN w (· < B) d) dv decl) (h3 : Row w (· < B) 17 (IN w (· < B) d) kv kids) (s2 : Sms d decl) (s3 : Sms d kids) (p2 : ∀ p ∈ decl, Shp d p) (p3 : ∀ p ∈ kids, Shp d p) (q2 : ∀ p ∈ decl, p.kind = 17) (q3 : ∀ p ∈ kids, p.kind = 5)
    (h1 : Strs w (· < B) nv names) (h4 : Row w (· < B) 17 (IN w (· < B) d) ev els) (hB : B ≤ w.heap.size) :
    Calls Tryz.prog 25 #[.agg #[.int .i64 13, .string t, .string v, nv, .bool tru, .bool asg, dv, kv, ev, .bool b3, .bool false, .bool false, .bool false, .bool false, .int .i64 0, .int .u64 0, .int .u64 0]] w
      (PipePost w B (d + 1) (.mk 13 t v names tru asg decl kids els b3 num ex)) := by
  obtain ⟨i0, hi, hz0, hz1, hz2⟩ := info_parts info_vn
  obtain ⟨j0, hj0, hy0, hy1, hy2⟩ := info_parts info_cn
  obtain ⟨A1, c1, rfl⟩ := h1.form
  obtain ⟨A2, c2, rfl⟩ := h2.form
  obtain ⟨A3, c3, rfl⟩ := h3.form
  obtain ⟨A4, c4, rfl⟩ := h4.form
  have y2 := s2.1
  have y3 := s3.1
  generalize hm1 : names.length = m1 at *
  generalize hm2 : decl.length = m2 at *
  generalize hm3 : kids.length = m3 at *
  generalize hm4 : els.length = m4 at *
  have IH := Lib.hid ih
  have H2 := Lib.hid h2
  have H3 := Lib.hid h3
  have S2 := Lib.hid s2
  have S3 := Lib.hid s3
  have P2 := Lib.hid p2
  have P3 := Lib.hid p3
  have Q2 := Lib.hid q2
  have Q3 := Lib.hid q3
  have M2 := Lib.hid hm2
  have M3 := Lib.hid hm3
  clear ih h1 h2 h3 h4 s2 s3 p2 p3 q2 q3 hm1 hm2 hm3 hm4
  go_enter Tryz.func25, Tryz.ntmps25
  go_wp2_with fail
  have hpg0 : PG 138 w ((w.alloc (.cells #[.int .i64 13, .string t, .string v, .slice A1 m1 c1, .bool tru, .bool asg, .slice A2 m2 c2, .slice A3 m3 c3, .slice A4 m4 c4, .bool b3, .bool false, .bool false, .bool false, .bool false, .int .i64 0, .int .u64 0, .int .u64 0] 33)).alloc (.cells #[.int .i64 14, .int .i64 0, .pointer none, .int .i64 0, .bool asg, .slice none 0 0, .slice none 0 0] 138)) #[.int .i64 13, .string t, .string v, .slice A1 m1 c1, .bool tru, .bool asg, .slice A2 m2 c2, .slice A3 m3 c3, .slice A4 m4 c4, .bool b3, .bool false, .bool false, .bool false, .bool false, .int .i64 0, .int .u64 0, .int .u64 0] #[.int .i64 14, .int .i64 0, .pointer none, .int .i64 0, .bool asg, .slice none 0 0, .slice none 0 0] :=
    ⟨below_trans (below_new _ _) (below_new _ _), (by rw [Below.heap_alloc _ _ _ (by simp)]; exact heap_alloc_new _ _), heap_alloc2 _ _ _⟩
  generalize (w.alloc (.cells #[.int .i64 13, .string t, .string v, .slice A1 m1 c1, .bool tru, .bool asg, .slice A2 m2 c2, .slice A3 m3 c3, .slice A4 m4 c4, .bool b3, .bool false, .bool false, .bool false, .bool false, .int .i64 0, .int .u64 0, .int .u64 0] 33)).alloc (.cells #[.int .i64 14, .int .i64 0, .pointer none, .int .i64 0, .bool asg, .slice none 0 0, .slice none 0 0] 138) = wo at *
  have hwo := hpg0.two

  go_loopw [24] (fun i wr => ∃ k : Nat, k ≤ m2 ∧ i = .int .i64 k ∧ ∃ q xs, PL w wo wr B d 83 #[.int .i64 13, .string t, .string v, .slice A1 m1 c1, .bool tru, .bool asg, .slice A2 m2 c2, .slice A3 m3 c3, .slice A4 m4 c4, .bool b3, .bool false, .bool false, .bool false, .bool false, .int .i64 0, .int .u64 0, .int .u64 0] #[.int .i64 14, .int .i64 0, .pointer none, .int .i64 0, .bool asg, q, .slice none 0 0] q k xs decl) (fun i _ => m2 - (intOf i).toNat)
  case atStart => exact ⟨0, Nat.zero_le _, rfl, _, _, PL.zero hpg0⟩
  case round =>
    obtain ⟨k, hk, rfl, q, xs, hpl⟩ := hrel
    obtain ⟨qA, qc, rfl⟩ := own_form hpl.1
    have PLk := Lib.hid hpl
    have g1 := hpl.2.2.1.at1 5
    have y4 := hpl.2.2.2.2
    clear hpl
    by_cases hlt : k < m2
    · have hlt' : k < decl.length := by rw [M2.out]; exact hlt
      have hr : Row wr (· < B) 17 (IN wr (· < B) d) (.slice A2 m2 c2) decl := H2.out.mono (fun cs a _ => IN.mono (fun _ h _ => h) (Keeps.of_below PLk.out.2.2.1.1) d cs a) (fun _ h _ => h) (Keeps.of_below PLk.out.2.2.1.1)
      rw [← M2.out] at hr
      obtain ⟨p, b', o', B1, e1, B2, e2, B3, e3, B4, e4, hp, rfl, _, _, hsn, _, hld⟩ := IN.ld hr hlt'
      have hsm : Sm d decl[k] := S2.out.2 _ (List.getElem_mem _)
      have hsp : Shp d decl[k] := P2.out _ (List.getElem_mem _)
      have hkp : decl[k].kind = 17 := Q2.out _ (List.getElem_mem _)
      rw [hp] at hsm hsp hkp
      have P := Lib.hid hp
      have INj := Lib.hid hsn
      have SMj := Lib.hid hsm
      have SHj := Lib.hid hsp
      have KP := Lib.hid hkp
      clear hr hsn hsm hp hsp hkp
      generalize p.names.length = l1 at *
      generalize p.decl.length = l2 at *
      generalize p.kids.length = l3 at *
      generalize p.els.length = l4 at *
      go_wp2_with (first
        | (go_at_call 16; refine Calls.mono (IH.out [_, _, _, _, _, _, _, _, _, _, _, _, _, _, _, _, _] p _ ?_ SMj.out SHj.out ?_) ?_; exact (IN.mono (fun _ h _ => h) (Keeps.of_below (below_new _ _)) _ _ _ INj.out); (have := PLk.out.2.2.1.1.size; simp only [World.size_alloc]; omega); rintro e w1 ⟨bq, rfl, hin, hb⟩; replace hin := Lib.hid hin; have hpg1 := PLk.out.2.2.1.later (below_alloc hb); have g2 := hpg1.at1 5; have PG1 := Lib.hid hpg1; clear hpg1; rw [show ifc p bq = .iface 83 (.pointer (some ⟨bq, 0, none⟩)) by unfold ifc; rw [KP.out]; rfl])
        | (at_builtin
           refine wpList_append_own_at _ rfl (.tmp 48) (.tmp 50) 135 rfl wo.heap.size 83 i0 _ 1 8 Tryz.underlying135 hi hz0 hz1 hz2 rfl (by decide) (.slice qA k qc) k xs rfl ((own_later PLk.out.1 (below_alloc hb)).alloc _) ⟨w1.heap.size, 0, none⟩ 1 1 [.pointer (some ⟨bq, 0, none⟩)] rfl rfl (news_at w1 _ _) ?c2 ?c3 ?c4 ?c5 ?_
           case c2 => simp [Value.oneCell']
           case c3 => unfold maxLen; omega
           case c4 => omega
           case c5 => (have h2 := hb.size; simp only [World.size_alloc] at *; omega)
           intro v' w2 hown2 hgr hnil hat
           obtain ⟨qA', qc', rfl⟩ := own_form hown2
           have hpg2 := (PG1.out.later (below_new _ _)).grown hgr (fun g hg => by have := (own_lt PLk.out.1 hg).1; omega)
           have g3 := hpg2.fr1 5
           have g4 := hpg2.at1 5
           have PG2 := Lib.hid hpg2
           clear hpg2))
      go_roundw
      case rel =>
        have hp := P.out
        refine ⟨k + 1, by omega, by go_num, _, _, PL.step PLk.out hlt' hB hwo hb (by rw [hp]; exact hin.out) hgr hown2 hat (PG2.out.set 5 _)⟩
      case measure => simp [intOf]; omega
    · have hk' : k = m2 := by omega
      subst hk'
      have g5 := PLk.out.2.2.1.at0 7
      have hx : wo.heap.size ≤ wr.heap.size := y4
      clear g1
      obtain ⟨wo2, rfl⟩ : ∃ wo2 : World, wo2 = wr := ⟨_, rfl⟩
      have PLd := PLk
      clear PLk
      go_wp2_with fail
      go_loopw [58] (fun i wr => ∃ j : Nat, j ≤ m3 ∧ i = .int .i64 j ∧ ∃ q ys, PL w wo2 wr B d 103 #[.int .i64 13, .string t, .string v, .slice A1 m1 c1, .bool tru, .bool asg, .slice A2 k c2, .slice A3 m3 c3, .slice A4 m4 c4, .bool b3, .bool false, .bool false, .bool false, .bool false, .int .i64 0, .int .u64 0, .int .u64 0] #[.int .i64 14, .int .i64 0, .pointer none, .int .i64 0, .bool asg, .slice qA k qc, q] q j ys kids) (fun i _ => m3 - (intOf i).toNat)
      case atStart => exact ⟨0, Nat.zero_le _, rfl, _, _, PL.zero PLd.out.2.2.1⟩
      case round =>
        obtain ⟨j, hj, rfl, q, ys, hpl⟩ := hrel
        obtain ⟨rA, rc, rfl⟩ := own_form hpl.1
        have PLe := Lib.hid hpl
        have g1 := hpl.2.2.1.at1 6
        have y5 := hpl.2.2.2.2
        clear hpl
        by_cases hltj : j < m3
        · have hlt' : j < kids.length := by rw [M3.out]; exact hltj
          have hr : Row wr (· < B) 17 (IN wr (· < B) d) (.slice A3 m3 c3) kids := H3.out.mono (fun cs a _ => IN.mono (fun _ h _ => h) (Keeps.of_below PLe.out.2.2.1.1) d cs a) (fun _ h _ => h) (Keeps.of_below PLe.out.2.2.1.1)
          rw [← M3.out] at hr
          obtain ⟨p, b', o', B1, e1, B2, e2, B3, e3, B4, e4, hp, rfl, _, _, hsn, _, hld⟩ := IN.ld hr hlt'
          have hsm : Sm d kids[j] := S3.out.2 _ (List.getElem_mem _)
          have hsp : Shp d kids[j] := P3.out _ (List.getElem_mem _)
          have hkp : kids[j].kind = 5 := Q3.out _ (List.getElem_mem _)
          rw [hp] at hsm hsp hkp
          have P := Lib.hid hp
          have INj := Lib.hid hsn
          have SMj := Lib.hid hsm
          have SHj := Lib.hid hsp
          have KP := Lib.hid hkp
          clear hr hsn hsm hp hsp hkp
          generalize p.names.length = l1 at *
          generalize p.decl.length = l2 at *
          generalize p.kids.length = l3 at *
          generalize p.els.length = l4 at *
          go_wp2_with (first
            | (go_at_call 16; refine Calls.mono (IH.out [_, _, _, _, _, _, _, _, _, _, _, _, _, _, _, _, _] p _ ?_ SMj.out SHj.out ?_) ?_; exact (IN.mono (fun _ h _ => h) (Keeps.of_below (below_new _ _)) _ _ _ INj.out); (have := PLe.out.2.2.1.1.size; simp only [World.size_alloc]; omega); rintro e w1 ⟨bq, rfl, hin, hb⟩; replace hin := Lib.hid hin; have hpg1 := PLe.out.2.2.1.later (below_alloc hb); have g2 := hpg1.at1 6; have PG1 := Lib.hid hpg1; clear hpg1; rw [show ifc p bq = .iface 103 (.pointer (some ⟨bq, 0, none⟩)) by unfold ifc; rw [KP.out]; rfl])
            | (at_builtin
               refine wpList_append_own_at _ rfl (.tmp 82) (.tmp 84) 136 rfl wo2.heap.size 103 j0 _ 1 8 Tryz.underlying136 hj0 hy0 hy1 hy2 rfl (by decide) (.slice rA j rc) j ys rfl ((own_later PLe.out.1 (below_alloc hb)).alloc _) ⟨w1.heap.size, 0, none⟩ 1 1 [.pointer (some ⟨bq, 0, none⟩)] rfl rfl (news_at w1 _ _) ?c2 ?c3 ?c4 ?c5 ?_
               case c2 => simp [Value.oneCell']
               case c3 => unfold maxLen; omega
               case c4 => omega
               case c5 => (have h2 := hb.size; simp only [World.size_alloc] at *; omega)
               intro v' w2 hown2 hgr hnil hat
               obtain ⟨rA', rc', rfl⟩ := own_form hown2
               have hpg2 := (PG1.out.later (below_new _ _)).grown hgr (fun g hg => by have := (own_lt PLe.out.1 hg).1; omega)
               have g3 := hpg2.fr1 6
               have g4 := hpg2.at1 6
               have PG2 := Lib.hid hpg2
               clear hpg2))
          go_roundw
          case rel =>
            have hp := P.out
            have hx2 := PL.step PLe.out hlt' hB (by omega) hb (by rw [hp]; exact hin.out) hgr hown2 hat (PG2.out.set 6 _)
            first | exact ⟨j + 1, by omega, by go_num, _, _, hx2⟩ | ((repeat apply Exists.intro); exact ⟨⟨j + 1, by omega, by go_num, _, _, hx2⟩, rfl⟩)
          case measure => simp [intOf]; omega
        · have hj' : j = m3 := by omega
          go_wp2
          go_ret2
          have st := PLe.out.2.2.2.1
          have rd : RowP wr (OldNew B w.heap.size) 83 ptrf (PN wr w.heap.size (OldNew B w.heap.size) TrNil d) (.slice qA k qc) decl :=
            (PLd.out.row M2.out.symm (by omega)).widen (by omega) (by omega) (fun b hb => st b (hb.imp id (by omega)))
          have rk : RowP wr (OldNew B w.heap.size) 103 ptrf (PN wr w.heap.size (OldNew B w.heap.size) TrNil d) (.slice rA j rc) kids :=
            (PLe.out.row (by rw [M3.out]; exact hj') (by omega)).widen (by omega) (by omega) (fun _ _ _ => rfl)
          have hbody : PBody wr (OldNew B w.heap.size) (.pointer none) (PN wr w.heap.size (OldNew B w.heap.size) TrNil d) (.mk 13 t v names tru asg decl kids els b3 num ex) 138 #[.int .i64 14, .int .i64 0, .pointer none, .int .i64 0, .bool asg, .slice qA k qc, .slice rA j rc] :=
            .pipe rfl Q2.out Q3.out rd rk
          exact ⟨w.heap.size + 1, rfl, ⟨by omega, Or.inr (by omega), _, _, _, rfl, PLe.out.2.2.1.2.2, hbody⟩, PLe.out.2.2.1.1⟩

end Go.Proofs.YtiogfkpclkkoaaaGreat
