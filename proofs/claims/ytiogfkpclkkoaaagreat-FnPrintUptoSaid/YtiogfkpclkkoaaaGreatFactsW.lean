/-
  What impl.branched's walk uses.
-/
import Derived.Test.YtiogfkpclkkoaaaGreatPiped
set_option linter.unusedVariables false
set_option linter.unusedSimpArgs false
namespace Go.Proofs.YtiogfkpclkkoaaaGreat
open Go.RowKit

/-- The element of a row of nodes: its load, in every later world. -/
theorem IN.lds {w : World} {S : Nat → Prop} {d : Nat} {A : Option Addr} {cap : Nat} {l : List Nd} (h : Row w S 17 (IN w S d) (.slice A l.length cap) l) {k : Nat} (hk : k < l.length) :
    ∃ p b o A1 d1 A2 d2 A3 d3 A4 d4, l[k] = p ∧ A = some ⟨b, o, none⟩ ∧ IN w S d [.int .i64 p.kind, .string p.text, .string p.value, .slice A1 p.names.length d1, .bool p.tru, .bool p.assign, .slice A2 p.decl.length d2, .slice A3 p.kids.length d3, .slice A4 p.els.length d4, .bool p.hasElse, .bool false, .bool false, .bool false, .bool false, .int .i64 0, .int .u64 0, .int .u64 0] p ∧
      ∀ W, Below w.heap.size w W → W.cell? ⟨b, o + k * 17, none⟩ = some (.int .i64 p.kind) ∧
      (LdN (.pointer (some ⟨b, o + k * 17, none⟩))).run Tryz.prog W = .ok (.agg #[.int .i64 p.kind, .string p.text, .string p.value, .slice A1 p.names.length d1, .bool p.tru, .bool p.assign, .slice A2 p.decl.length d2, .slice A3 p.kids.length d3, .slice A4 p.els.length d4, .bool p.hasElse, .bool false, .bool false, .bool false, .bool false, .int .i64 0, .int .u64 0, .int .u64 0]) W := by
  obtain ⟨A', cap', hv, h⟩ := h
  injection hv with hA _ _
  subst hA
  obtain ⟨b, o, rfl, hb, hlt, h⟩ := h (by omega)
  obtain ⟨cs, hR, hc⟩ := h k hk
  obtain ⟨A1, d1, A2, d2, A3, d3, A4, d4, rfl⟩ := hR.form
  refine ⟨l[k], b, o, A1, d1, A2, d2, A3, d3, A4, d4, rfl, rfl, hR, fun W hW => ?_⟩
  have hcW : ∀ j, (hj : j < _) → W.cell? ⟨b, o + k * 17 + j, none⟩ = some _ := fun j hj => (World.cell?_of_block (a := ⟨b, o + k * 17 + j, none⟩) (hW.block b hlt)).trans (hc j hj)
  exact ⟨hcW 0 (by simp), run_ldN W b (o + k * 17) _ rfl hcW⟩

/-- The parameter's block, the result's and the variable's, in a later world. -/
def BG (w W : World) (row res loc : Array Value) : Prop :=
  Below w.heap.size w W ∧ W.heap[w.heap.size]? = some (.cells row 33 (0, 0)) ∧ W.heap[w.heap.size + 1]? = some (.cells res 113 (0, 0)) ∧ W.heap[w.heap.size + 2]? = some (.cells loc 113 (0, 0))
theorem BG.later {w W W' : World} {row res loc : Array Value} (h : BG w W row res loc) (hb : Below W.heap.size W W') : BG w W' row res loc :=
  ⟨h.1.trans (hb.mono h.1.size), (hb.block _ (lt_of_block h.2.1)).trans h.2.1, (hb.block _ (lt_of_block h.2.2.1)).trans h.2.2.1, (hb.block _ (lt_of_block h.2.2.2)).trans h.2.2.2⟩
theorem BG.set {w W : World} {row res loc : Array Value} (h : BG w W row res loc) (i : Nat) (v : Value) : BG w (W.setCell ⟨w.heap.size + 2, i, none⟩ v) row res (loc.setIfInBounds i v) :=
  ⟨Below.setCell' h.1 (by omega) v, (setCell_far _ _ _ _ _ (by omega)).trans h.2.1, (setCell_far _ _ _ _ _ (by omega)).trans h.2.2.1, setCell_heap v h.2.2.2⟩
theorem BG.three {w W : World} {row res loc : Array Value} (h : BG w W row res loc) : w.heap.size + 3 ≤ W.heap.size := lt_of_block h.2.2.2
theorem BG.at0 {w W : World} {row res loc : Array Value} (h : BG w W row res loc) (i : Nat) : W.cell? ⟨w.heap.size, i, none⟩ = row[i]? := by simp [World.cell?, h.2.1]
theorem BG.at2 {w W : World} {row res loc : Array Value} (h : BG w W row res loc) (i : Nat) : W.cell? ⟨w.heap.size + 2, i, none⟩ = loc[i]? := by simp [World.cell?, h.2.2.2]
theorem BG.fr2 {w W : World} {row res loc : Array Value} (h : BG w W row res loc) (i : Nat) : W.frozen? ⟨w.heap.size + 2, i, none⟩ = false := by simp [World.frozen?, h.2.2.2]

def LdB (x : Value) : Sem Value := Instr.loadAt 113 x
theorem ldB (x : Value) : Instr.loadAt 113 x = LdB x := rfl
def StB (x y : Value) : Sem Unit := Instr.storeAt 113 x y
theorem stB (x y : Value) : Instr.storeAt 113 x y = StB x y := rfl

theorem info_branch : (Tryz.prog.info? 113).map (·.size) = some 7 := by kernel_rfl
theorem und_branch : (match Tryz.prog.underlying 113 with | some (.struct _) => true | _ => false) = true := by kernel_rfl

theorem BG.ld {w W : World} {row res loc : Array Value} (h : BG w W row res loc) (hl : loc.size = 7) : (LdB (.pointer (some ⟨w.heap.size + 2, 0, none⟩))).run Tryz.prog W = .ok (.agg loc) W := by
  have hu := und_branch
  cases hp : Tryz.prog.underlying 113 with
  | none => rw [hp] at hu; cases hu
  | some d =>
    rw [hp] at hu
    unfold LdB
    simp only [Instr.loadAt, Instr.sureAddr, Sem.run_bind, Sem.run_pure, Result.andThen_ok]
    exact run_loadVar_row W _ _ _ loc (0, 0) d h.2.2.2 hp (by cases d <;> simp_all) (by rw [info_branch, hl])
theorem BG.st {w W : World} {row res loc : Array Value} (h : BG w W row res loc) (cs : Array Value) (hr : res.size = 7) (hl : cs.size = 7) (h1 : cs.all (·.oneCell') = true) :
    (StB (.pointer (some ⟨w.heap.size + 1, 0, none⟩)) (.agg cs)).run Tryz.prog W = .ok () (W.setRow (w.heap.size + 1) cs) := by
  unfold StB
  simp only [Instr.storeAt, Instr.sureAddr, Sem.run_bind, Sem.run_pure, Result.andThen_ok]
  exact run_storeVar_row W _ _ _ res cs h.2.2.1 (by rw [info_branch, hl]) (by rw [hr, hl]) h1
/-- A new variable's first store, of a value that was built. -/
theorem run_stB_new (w : World) (n : Nat) (hn : n = w.heap.size) (k0 k1 k3 : IntKind) (n0 n1 n3 : Int) (p2 p4 p5 p6 : Option Addr) :
    (StB (.pointer (some ⟨n, 0, none⟩)) (.agg #[.int k0 n0, .int k1 n1, .pointer p2, .int k3 n3, .pointer p4, .pointer p5, .pointer p6])).run Tryz.prog (w.alloc (.cells #[.int .i64 0, .int .i64 0, .pointer none, .int .i64 0, .pointer none, .pointer none, .pointer none] 113))
      = .ok () (w.alloc (.cells #[.int k0 n0, .int k1 n1, .pointer p2, .int k3 n3, .pointer p4, .pointer p5, .pointer p6] 113)) := by
  subst hn
  unfold StB
  exact run_storeAt_new w _ _ _ (by rw [info_branch]; rfl) rfl (by simp [Value.oneCell'])

/-- A branch's seven cells, their parts built. -/
def BranchedPost (w : World) (B d : Nat) (ty : Int) (p l : Nd) (he : Bool) (els : List Nd) (e : Ending) (w' : World) : Prop :=
  ∃ bp bl ep, e = .returned (.tuple #[.agg #[.int .i64 ty, .int .i64 0, .pointer none, .int .i64 0, .pointer (some ⟨bp, 0, none⟩), .pointer (some ⟨bl, 0, none⟩), .pointer ep], .bool true]) ∧
    Pn w' B w.heap.size d bp p ∧ Pn w' B w.heap.size d bl l ∧ ((he = false ∧ ep = none) ∨ ∃ x be, he = true ∧ els = [x] ∧ ep = some ⟨be, 0, none⟩ ∧ Pn w' B w.heap.size d be x) ∧ Below w.heap.size w w'

theorem Pn.setCell {W : World} {B n d b g i : Nat} {p : Nd} {v : Value} (h : Pn W B n d b p) (hB : B ≤ g) (hg : g < n) : Pn (W.setCell ⟨g, i, none⟩ v) B n d b p :=
  PN.mono (Nat.le_refl _) (fun _ h _ => h) (fun b hb _ => setCell_far _ _ _ _ _ (by rcases hb with hb | hb <;> omega)) d b p h
theorem Pn.setRow {W : World} {B n d b g : Nat} {p : Nd} {cs : Array Value} (h : Pn W B n d b p) (hB : B ≤ g) (hg : g < n) : Pn (W.setRow g cs) B n d b p :=
  PN.mono (Nat.le_refl _) (fun _ h _ => h) (fun b hb _ => setRow_other _ _ _ _ (by rcases hb with hb | hb <;> omega)) d b p h
theorem BG.init (w : World) (row res loc : Array Value) : BG w (((w.alloc (.cells row 33)).alloc (.cells res 113)).alloc (.cells loc 113)) row res loc :=
  ⟨below_trans (below_trans (below_new _ _) (below_new _ _)) (below_new _ _),
    (by rw [Below.heap_alloc _ _ _ (by simp; omega), Below.heap_alloc _ _ _ (by simp)]; exact heap_alloc_new _ _),
    (by rw [Below.heap_alloc _ _ _ (by simp)]; exact heap_alloc2 _ _ _), heap_alloc3 _ _ _ _⟩

theorem run_ldB_new (w : World) (k0 k1 k3 : IntKind) (n0 n1 n3 : Int) (p2 p4 p5 p6 : Option Addr) :
    (LdB (.pointer (some ⟨w.heap.size, 0, none⟩))).run Tryz.prog (w.alloc (.cells #[.int k0 n0, .int k1 n1, .pointer p2, .int k3 n3, .pointer p4, .pointer p5, .pointer p6] 113))
      = .ok (.agg #[.int k0 n0, .int k1 n1, .pointer p2, .int k3 n3, .pointer p4, .pointer p5, .pointer p6]) (w.alloc (.cells #[.int k0 n0, .int k1 n1, .pointer p2, .int k3 n3, .pointer p4, .pointer p5, .pointer p6] 113)) := by
  have hu := und_branch
  cases hp : Tryz.prog.underlying 113 with
  | none => rw [hp] at hu; cases hu
  | some d =>
    rw [hp] at hu
    unfold LdB
    simp only [Instr.loadAt, Instr.sureAddr, Sem.run_bind, Sem.run_pure, Result.andThen_ok]
    exact run_loadVar_row _ _ _ _ _ (0, 0) d (heap_alloc_last w _) hp (by cases d <;> simp_all) (by rw [info_branch]; rfl)

/-- Several nodes that are one: the cell of the row. -/
theorem SeveralPost.one {W w1 : World} {B d : Nat} {p : Nd} {e : Ending} (h : SeveralPost W B d [p] e w1) (n : Nat) (hn : n ≤ W.heap.size) :
    ∃ g qc T bq, e = .returned (.tuple #[.slice (some ⟨g, 0, none⟩) 1 qc, .bool true]) ∧ ptrT p.kind = T ∧ (∀ x, (w1.alloc x).cell? ⟨g, 0, none⟩ = some (.iface T (.pointer (some ⟨bq, 0, none⟩)))) ∧ Pn w1 B n d bq p ∧ Below W.heap.size W w1 ∧ w1.cell? ⟨g, 0, none⟩ = some (.iface T (.pointer (some ⟨bq, 0, none⟩))) := by
  obtain ⟨v, rfl, hr, hb⟩ := h
  rcases hr with ⟨_, h0⟩ | ⟨g, cap, cur, rfl, _, hh, hc⟩
  · cases h0
  · obtain ⟨b, h1, h2⟩ := hc 0 (by simp)
    have hcell : w1.cell? ⟨g, 0, none⟩ = some (.iface (ptrT p.kind) (.pointer (some ⟨b, 0, none⟩))) := by
      rw [cell_of_row w1 g 0 cur _ _ hh]
      exact h1
    have h2' : Pn w1 B W.heap.size d b p := h2
    exact ⟨g, cap, _, b, rfl, rfl, fun x => (World.cell?_alloc_past x g 0 (lt_of_block hh)).trans hcell, h2'.later (Below.refl _ _) hn, hb, hcell⟩

theorem BranchedPost.use0 {W w1 : World} {B d : Nat} {ty : Int} {p l : Nd} {e : Ending} (h : BranchedPost W B d ty p l false [] e w1) (n : Nat) (hn : n ≤ W.heap.size) :
    ∃ bp bl, e = .returned (.tuple #[.agg #[.int .i64 ty, .int .i64 0, .pointer none, .int .i64 0, .pointer (some ⟨bp, 0, none⟩), .pointer (some ⟨bl, 0, none⟩), .pointer none], .bool true]) ∧ Pn w1 B n d bp p ∧ Pn w1 B n d bl l ∧ Below W.heap.size W w1 := by
  obtain ⟨bp, bl, ep, rfl, hp, hl, ⟨_, rfl⟩ | ⟨x, be, h0, _⟩, hb⟩ := h
  · exact ⟨bp, bl, rfl, hp.later (Below.refl _ _) hn, hl.later (Below.refl _ _) hn, hb⟩
  · cases h0
theorem BranchedPost.use1 {W w1 : World} {B d : Nat} {ty : Int} {p l x : Nd} {e : Ending} (h : BranchedPost W B d ty p l true [x] e w1) (n : Nat) (hn : n ≤ W.heap.size) :
    ∃ bp bl be, e = .returned (.tuple #[.agg #[.int .i64 ty, .int .i64 0, .pointer none, .int .i64 0, .pointer (some ⟨bp, 0, none⟩), .pointer (some ⟨bl, 0, none⟩), .pointer (some ⟨be, 0, none⟩)], .bool true]) ∧ Pn w1 B n d bp p ∧ Pn w1 B n d bl l ∧ Pn w1 B n d be x ∧ Below W.heap.size W w1 := by
  obtain ⟨bp, bl, ep, rfl, hp, hl, ⟨h0, _⟩ | ⟨y, be, _, hy, rfl, hx⟩, hb⟩ := h
  · cases h0
  · obtain rfl : x = y := by simpa using hy
    exact ⟨bp, bl, be, rfl, hp.later (Below.refl _ _) hn, hl.later (Below.refl _ _) hn, hx.later (Below.refl _ _) hn, hb⟩

end Go.Proofs.YtiogfkpclkkoaaaGreat
