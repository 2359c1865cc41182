/-
  The walk of impl.Empty.
-/
import Derived.Test.YtpoedkaggfojgaaGreatDoorIsEmpty
import Derived.Test.YtpoedkaggfojgaaGreatDoorAskedS
set_option linter.unusedVariables false
set_option linter.unusedSimpArgs false
namespace Go.Proofs.YtpoedkaggfojgaaGreatDoor
open Go.RowKit

/-- The law's two words for a list are one. -/
theorem emptyD_list {d : Nat} {n : Nd} (hk : n.kind = 10) (h : Shp (d + 1) n) : emptyD (d + 1) n = n.kids.all emptyK ∧ ∀ p ∈ n.kids, elementK p.kind = true := by
  have he : ∀ p ∈ n.kids, elementK p.kind = true := by
    have := h.2.2.2
    unfold ShpK at this
    rw [hk] at this
    rcases this with h | h | h | h | h | h | h | h
    · exact absurd h.1 (by decide)
    · omega
    · omega
    · omega
    · omega
    · omega
    · exact h.2
    · omega
  refine ⟨?_, he⟩
  have e0 : emptyD (d + 1) n = n.kids.all (emptyD d) := by simp [emptyD, hk]
  rw [e0]
  rw [Bool.eq_iff_iff, List.all_eq_true, List.all_eq_true]
  have hq : ∀ p ∈ n.kids, emptyD d p = emptyK p := fun p hp => by
    have hs := h.2.1 p hp
    cases d with
    | zero => exact hs.elim
    | succ d =>
      have hne : p.kind ≠ 10 := fun h10 => by have := he p hp; rw [h10] at this; exact absurd this (by decide)
      simp [emptyD, emptyK, hne]
  exact ⟨fun h p hp => hq p hp ▸ h p hp, fun h p hp => (hq p hp).symm ▸ h p hp⟩

attribute [local go_sem ↓] ldN
attribute [local go_sem] run_ldN_new

theorem Tab.lt {w : World} (h : Tab w) : 1 < w.heap.size := lt_of_cell (h 0 (by omega))

set_option maxHeartbeats 1000000 in
set_option maxRecDepth 100000 in
theorem impl_empty (B d : Nat) (n : Nd) (w : World) (A1 A2 A3 A4 : Option Addr) (m1 m2 m3 m4 c1 c2 c3 c4 : Nat)
    (h : IN w (· < B) (d + 1) [.int .i64 10, .string n.text, .string n.value, .slice A1 m1 c1, .bool n.tru, .bool n.assign, .slice A2 m2 c2, .slice A3 m3 c3, .slice A4 m4 c4, .bool n.hasElse, .bool false, .bool false, .bool false, .bool false, .int .i64 0, .int .u64 0, .int .u64 0] n)
    (hs : Sm (d + 1) n) (hp : Shp (d + 1) n) (hk : n.kind = 10) (ha : AskedP n) (ht : Tab w) (hB : B ≤ w.heap.size) :
    Calls Tryz.prog 7 #[.agg #[.int .i64 10, .string n.text, .string n.value, .slice A1 m1 c1, .bool n.tru, .bool n.assign, .slice A2 m2 c2, .slice A3 m3 c3, .slice A4 m4 c4, .bool n.hasElse, .bool false, .bool false, .bool false, .bool false, .int .i64 0, .int .u64 0, .int .u64 0]] w
      fun e w' => e = .returned (.bool (n.kids.all emptyK)) ∧ Below w.heap.size w w' := by
  have he := (emptyD_list hk hp).2
  have s3 := (hs.partsI h).2.1
  have z3 : ∀ p ∈ n.kids, p.text.size ≤ 1048576 := fun p hp' => by
    have h1 := s3.2 p hp'
    cases d with
    | zero => exact (hp.2.1 p hp').elim
    | succ d => simp only [Sm, wt] at h1; omega
  have H := Lib.hid h
  have HS := Lib.hid hs
  have HP := Lib.hid hp
  have HK := Lib.hid hk
  have HA := Lib.hid ha
  have HT := Lib.hid ht
  have HE := Lib.hid he
  have S3 := Lib.hid s3
  have Z3 := Lib.hid z3
  clear h hs hp hk ha ht he s3 z3
  go_enter Tryz.func7, Tryz.ntmps7
  go_wp2_with (first
    | (go_at_call 15; refine Calls.mono (built_any B (d + 1) [_, _, _, _, _, _, _, _, _, _, _, _, _, _, _, _, _] n _ ?_ HS.out HP.out ?_) ?_; exact IN.mono (fun _ h _ => h) (Keeps.of_below (below_new _ _)) _ _ _ H.out; (simp only [World.size_alloc]; omega); rintro e w1 ⟨bq, rfl, hpn, hb⟩; have hcall := isEmpty_list hpn HK.out HE.out HA.out S3.out Z3.out (HT.out.later (below_alloc hb) HT.out.lt); unfold ifc at hcall ⊢; rw [HK.out] at hcall ⊢; have HC := Lib.hid hcall; have HB := Lib.hid hb; clear hcall hb hpn)
    | (go_at_call 16; refine Calls.mono HC.out ?_; rintro e w2 ⟨rfl, rfl⟩))
  go_ret
  exact ⟨rfl, below_alloc HB.out⟩

end Go.Proofs.YtpoedkaggfojgaaGreatDoor
