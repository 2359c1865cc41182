/-
  The walk of impl.piped.
-/
import Derived.Test.YtiogfkpclkkoaaaGreatListW
set_option linter.unusedVariables false
set_option linter.unusedSimpArgs false
namespace Go.Proofs.YtiogfkpclkkoaaaGreat
open Go.RowKit

attribute [local go_sem ↓] ldN

set_option maxHeartbeats 1000000 in
theorem piped_nil (A : Option Addr) (c : Nat) (w : World) : Calls Tryz.prog 24 #[.slice A 0 c] w fun e w' => e = .returned (.tuple #[.pointer none, .bool true]) ∧ w = w' := by
  go_enter Tryz.func24, Tryz.ntmps24
  go_wp2
  go_ret2
  exact ⟨rfl, rfl⟩

set_option maxHeartbeats 1000000 in
theorem piped_one (B d : Nat) (ih : PipeAt B d) (p : Nd) (A : Option Addr) (c : Nat) (w : World) (h : Ino w B d (.slice A 1 c) [p]) (hs : Sm d p) (hp : Shp d p) (hk : p.kind = 13) (hB : B ≤ w.heap.size) :
    Calls Tryz.prog 24 #[.slice A 1 c] w (PipePost w B d p) := by
  obtain ⟨p', b', o', B1, e1, B2, e2, B3, e3, B4, e4, hpp, rfl, _, _, hsn, hk0, hld⟩ := IN.ld (l := [p]) h (k := 0) (by simp)
  obtain rfl : p' = p := hpp.symm
  rw [hk] at hk0 hld hsn
  simp only [Nat.zero_mul, Nat.add_zero] at hk0 hld
  have IH := Lib.hid ih
  have INj := Lib.hid hsn
  have SMj := Lib.hid hs
  have SHj := Lib.hid hp
  have KP := Lib.hid hk
  clear ih hsn hs hp h hpp hk
  generalize p'.names.length = l1 at *
  generalize p'.decl.length = l2 at *
  generalize p'.kids.length = l3 at *
  generalize p'.els.length = l4 at *
  go_enter Tryz.func24, Tryz.ntmps24
  go_wp2_with (go_at_call 25; refine Calls.mono (IH.out [_, _, _, _, _, _, _, _, _, _, _, _, _, _, _, _, _] p' _ INj.out SMj.out SHj.out KP.out hB) ?_; intro e w1 hpost; obtain ⟨bq, rfl, hq, hb⟩ := hpost.use w.heap.size (Nat.le_refl _); replace hq := Lib.hid hq)
  go_ret2
  exact ⟨bq, rfl, hq.out, hb⟩

end Go.Proofs.YtiogfkpclkkoaaaGreat
