/-
  What the form's reading of a node of the reference gives: the node, its bulk.
  The post of a law whose call leaves what was there as it was (new blocks alone may bear marks of frozen cells).
-/
import Derived.Test.YtiogfkpclkkoaaaGreatRows
import Derived.Test.YtiogfkpclkkoaaaGreatDefs
import Derived.ChangeArms
import Derived.DataReads
import Derived.ProofKit
import Derived.ReadAgain
import Derived.OpenShut
import Derived.Below
set_option linter.unusedVariables false
set_option linter.unusedSimpArgs false
namespace Go.Proofs.YtiogfkpclkkoaaaGreat
open Go.RowKit

theorem und_fields : (match Tryz.prog.underlying 25 with | some (.struct fs) => fs.toList.map (fun f => (f.type, f.offset)) | _ => []) =
    [(3, 0), (9, 1), (9, 2), (22, 3), (4, 4), (4, 5), (23, 6), (23, 7), (23, 8), (4, 9), (2, 10), (4, 11)] := by kernel_rfl
theorem cells_sn : Tryz.prog.cellsOf 25 = 12 := by kernel_rfl
theorem cells_str : Tryz.prog.cellsOf 9 = 1 := by kernel_rfl
theorem cells_int : Tryz.prog.cellsOf 3 = 1 := by kernel_rfl
theorem cells_i64 : Tryz.prog.cellsOf 2 = 1 := by kernel_rfl
theorem cells_bool : Tryz.prog.cellsOf 4 = 1 := by kernel_rfl
theorem cells_strs : Tryz.prog.cellsOf 22 = 1 := by kernel_rfl
theorem cells_sns : Tryz.prog.cellsOf 23 = 1 := by kernel_rfl
theorem und_int : Tryz.prog.underlying 3 = some (.int .i64) := by kernel_rfl
theorem und_i64 : Tryz.prog.underlying 2 = some (.int .i64) := by kernel_rfl
theorem und_str : Tryz.prog.underlying 9 = some .string := by kernel_rfl
theorem und_bool : Tryz.prog.underlying 4 = some .bool := by kernel_rfl
theorem und_strs : Tryz.prog.underlying 22 = some (.slice 9) := by kernel_rfl
theorem und_sns : Tryz.prog.underlying 23 = some (.slice 25) := by kernel_rfl

/-! ### Fuel -/
theorem wt_up {w : World} {S : Nat → Prop} : ∀ {d cs n}, SN w S d cs n → wt (d + 1) n = wt d n
  | 0, _, _, h => h.elim
  | d + 1, _, n, h => by
    obtain ⟨_, _, _, _, _, _, h2, h3, h4⟩ := h
    have e : ∀ {v : Value} {l : List Nd}, Row w S 12 (SN w S d) v l → l.map (wt (d + 1)) = l.map (wt d) := fun h => List.map_congr_left fun a ha => (h.all (p := fun a => wt (d + 1) a = wt d a) fun _ _ => wt_up) a ha
    show 1 + n.text.size + n.value.size + (n.names.map fun s => s.size + 1).sum + (n.decl.map (wt (d + 1))).sum + (n.kids.map (wt (d + 1))).sum + (n.els.map (wt (d + 1))).sum = 1 + n.text.size + n.value.size + (n.names.map fun s => s.size + 1).sum + (n.decl.map (wt d)).sum + (n.kids.map (wt d)).sum + (n.els.map (wt d)).sum
    rw [e h2, e h3, e h4]
theorem SN.up {w : World} {S : Nat → Prop} : ∀ {d cs n}, SN w S d cs n → SN w S (d + 1) cs n
  | 0, _, _, h => h.elim
  | d + 1, _, n, h => by
    obtain ⟨nv, dv, kv, ev, e, h1, h2, h3, h4⟩ := h
    have m : ∀ {v : Value} {l : List Nd}, Row w S 12 (SN w S d) v l → Row w S 12 (SN w S (d + 1)) v l := fun h => Row.mono (fun cs a _ => SN.up) (fun _ h _ => h) (Keeps.refl _ _) h
    exact ⟨nv, dv, kv, ev, e, h1, m h2, m h3, m h4⟩
theorem SN.le {w : World} {S : Nat → Prop} {d d' : Nat} {cs : List Value} {n : Nd} (h : SN w S d cs n) (hd : d ≤ d') : SN w S d' cs n ∧ wt d' n = wt d n := by
  induction hd with
  | refl => exact ⟨h, rfl⟩
  | step _ ih => exact ⟨ih.1.up, (wt_up ih.1).trans ih.2⟩

theorem gather {R : Nat → Nat → Nd → Prop} (hm : ∀ i d d' n, R i d n → d ≤ d' → R i d' n) : ∀ (len : Nat), (∀ i, i < len → ∃ d n, R i d n) → ∃ (d : Nat) (l : List Nd), l.length = len ∧ ∀ i, (h : i < l.length) → R i d l[i]
  | 0, _ => ⟨0, [], rfl, fun i h => absurd h (by simp)⟩
  | len + 1, h => by
    obtain ⟨d, l, hl, hr⟩ := gather hm len fun i hi => h i (by omega)
    obtain ⟨d1, n1, h1⟩ := h len (by omega)
    refine ⟨max d d1, l ++ [n1], by simp [hl], fun i hi => ?_⟩
    rcases Nat.lt_or_ge i l.length with h' | h'
    · rw [List.getElem_append_left h']
      exact hm _ _ _ _ (hr i h') (Nat.le_max_left _ _)
    · have : i = l.length := by simp at hi; omega
      subst this
      rw [List.getElem_append_right (Nat.le_refl _)]
      simp only [Nat.sub_self, List.getElem_cons_zero]
      rw [hl]
      exact hm _ _ _ _ h1 (Nat.le_max_right _ _)

theorem sum_le {α β : Type} (f : α → Nat) (g : β → Nat) : ∀ (l : List α) (m : List β), l.length = m.length → (∀ i, (h : i < l.length) → (h' : i < m.length) → f l[i] ≤ g m[i]) → (l.map f).sum ≤ (m.map g).sum
  | [], _, _, _ => by simp
  | a :: l, [], h, _ => by simp at h
  | a :: l, b :: m, h, hi => by
    have h0 := hi 0 (by simp) (by simp)
    have h1 := sum_le f g l m (by simpa using h) fun i h h' => by have := hi (i + 1) (by simpa using h) (by simpa using h'); simpa using this
    simp only [List.map_cons, List.sum_cons, List.getElem_cons_zero] at h0 ⊢
    omega
theorem bulkAll_sum {H : Type} (l : List (DataW H)) : Rows.uptoBulkAll l = (l.map Rows.uptoBulk).sum := by
  induction l with
  | nil => rfl
  | cons x r ih => simp only [Rows.uptoBulkAll, List.map_cons, List.sum_cons, ih]

section
variable {H : Type} {enc : TypeId × Value → H} {w : World} {base : Nat} {spare : Nat → Bool} {held : Bool}

theorem add_at (b o i : Nat) : (⟨b, o, none⟩ : Addr).add i = ⟨b, o + i, none⟩ := by unfold Addr.add; split <;> simp_all

/-- An address whose cells are there bears no spot. -/
theorem spot_none {a : Addr} {n : Nat} {cs : List Value} (hn : 0 < n) (h : w.cells? base a n = some cs) : a.spot = none ∧ a.block < w.heap.size := by
  obtain ⟨_, hl, hc⟩ := World.cells?_some h
  have h0 := hc 0 hn
  rw [List.getElem?_eq_getElem (by omega), show a.add 0 = a by simp [Addr.add]] at h0
  unfold World.cell? at h0
  cases hh : w.heap[a.block]? with
  | none => rw [hh] at h0; cases h0
  | some x =>
    rw [hh] at h0
    refine ⟨?_, lt_of_block hh⟩
    cases hs : a.spot with
    | none => rfl
    | some y =>
      rw [hs] at h0
      cases x <;> simp at h0

/-- The cells of a slice's elements, as a row. -/
theorem row_cells {a : Addr} {len k : Nat} {Q : Nat → List Value → Prop} (hk : 0 < k) (h : ∀ i, i < len → ∃ cs, w.cells? base (a.add (i * k)) k = some cs ∧ Q i cs) (hlen : 0 < len) :
    ∃ b o, a = ⟨b, o, none⟩ ∧ b < w.heap.size ∧ ∀ i, i < len → ∃ cs, Q i cs ∧ ∀ j, (hj : j < cs.length) → w.cell? ⟨b, o + i * k + j, none⟩ = some cs[j] := by
  obtain ⟨cs0, h0, _⟩ := h 0 hlen
  rw [show a.add (0 * k) = a by simp [Addr.add]] at h0
  obtain ⟨hs, hlt⟩ := spot_none hk h0
  obtain ⟨b, o, s⟩ := a
  have hs' : s = none := hs
  subst hs'
  refine ⟨b, o, rfl, hlt, fun i hi => ?_⟩
  obtain ⟨cs, hc, hq⟩ := h i hi
  obtain ⟨_, hl, hcell⟩ := World.cells?_some hc
  refine ⟨cs, hq, fun j hj => ?_⟩
  have := hcell j (by omega)
  rw [add_at, add_at, List.getElem?_eq_getElem hj] at this
  exact this

theorem listOf {α : Type} {R : Nat → α → Prop} : ∀ (len : Nat), (∀ i, i < len → ∃ a, R i a) → ∃ l : List α, l.length = len ∧ ∀ i, (h : i < l.length) → R i l[i]
  | 0, _ => ⟨[], rfl, fun i h => absurd h (by simp)⟩
  | len + 1, h => by
    obtain ⟨l, hl, hr⟩ := listOf len fun i hi => h i (by omega)
    obtain ⟨n1, h1⟩ := h len (by omega)
    refine ⟨l ++ [n1], by simp [hl], fun i hi => ?_⟩
    rcases Nat.lt_or_ge i l.length with h' | h'
    · rw [List.getElem_append_left h']
      exact hr i h'
    · have : i = l.length := by simp at hi; omega
      subst this
      rw [List.getElem_append_right (Nat.le_refl _)]
      simp only [Nat.sub_self, List.getElem_cons_zero]
      rw [hl]
      exact h1

theorem read_strs {f : Nat} {cs : List Value} {x : DataW H × List MemPlace} (h : DataW.trod enc Tryz.prog w base spare held f 22 cs = some x) :
    ∃ v l, cs = [v] ∧ Strs w (· < w.heap.size) v l ∧ (l.map fun s => s.size + 1).sum + 1 ≤ Rows.uptoBulk x.1 := by
  rcases DataW.trod_slice und_strs h with ⟨rfl, rfl⟩ | ⟨a, len, cap, elems, rest, n, _, rfl, rfl, _, _, _, hel, hget, _, _⟩
  · exact ⟨_, [], rfl, Row.nil _ _ _ _, by simp [Rows.uptoBulk]⟩
  · rw [cells_str] at hget
    have hq : ∀ i, i < len → ∃ s : ByteArray, w.cells? base (a.add (i * 1)) 1 = some [.string s] ∧ ∃ h : i < elems.length, (elems[i]).1 = .lit (.string s.data.toList) := fun i hi => by
      have hg := hget i hi
      rw [List.getElem?_eq_getElem (by omega)] at hg
      obtain ⟨cs', hc, ht⟩ := Option.bind_eq_some_iff.1 hg
      obtain ⟨s, rfl, hx, _⟩ := DataW.trod_string und_str ht
      exact ⟨s, hc, by omega, by rw [hx]⟩
    obtain ⟨l, hl, hr⟩ := listOf len hq
    refine ⟨_, l, rfl, ⟨some a, cap, by rw [hl], fun h0 => ?_⟩, ?_⟩
    · obtain ⟨b, o, rfl, hlt, hrow⟩ := row_cells (w := w) (base := base) (a := a) (len := len) (k := 1) (Q := fun i cs => ∃ h : i < l.length, cs = [.string l[i]]) (by omega) (fun i hi => ⟨_, (hr i (by omega)).1, by omega, rfl⟩) (by omega)
      refine ⟨b, o, rfl, hlt, hlt, fun i hi => ?_⟩
      obtain ⟨cs', ⟨_, rfl⟩, hc⟩ := hrow i (by omega)
      exact ⟨_, rfl, hc⟩
    · have hs := sum_le (fun s : ByteArray => s.size + 1) Rows.uptoBulk l (elems.map (·.1)) (by simp [hl, hel]) fun i h h' => by
        obtain ⟨_, hi', he⟩ := hr i h
        simp only [List.getElem_map]
        rw [he]
        simp [Rows.uptoBulk]
      simp only [Rows.uptoBulk, bulkAll_sum]
      omega

theorem read_row {D0 : Nat} (ih : ∀ g cs x, g < D0 → DataW.trod enc Tryz.prog w base spare held g 25 cs = some x → ∃ d n, SN w (· < w.heap.size) d cs n ∧ wt d n ≤ Rows.uptoBulk x.1)
    {f : Nat} {cs : List Value} {x : DataW H × List MemPlace} (hf : f ≤ D0) (h : DataW.trod enc Tryz.prog w base spare held f 23 cs = some x) :
    ∃ v d l, cs = [v] ∧ Row w (· < w.heap.size) 12 (SN w (· < w.heap.size) d) v l ∧ (l.map (wt d)).sum + 1 ≤ Rows.uptoBulk x.1 := by
  rcases DataW.trod_slice und_sns h with ⟨rfl, rfl⟩ | ⟨a, len, cap, elems, rest, n, hfn, rfl, rfl, _, _, _, hel, hget, _, _⟩
  · exact ⟨_, 0, [], rfl, Row.nil _ _ _ _, by simp [Rows.uptoBulk]⟩
  · rw [cells_sn] at hget
    have hq : ∀ i, i < len → ∃ d n, ∃ cs, w.cells? base (a.add (i * 12)) 12 = some cs ∧ SN w (· < w.heap.size) d cs n ∧ ∃ h : i < elems.length, wt d n ≤ Rows.uptoBulk (elems[i]).1 := fun i hi => by
      have hg := hget i hi
      rw [List.getElem?_eq_getElem (by omega)] at hg
      obtain ⟨cs', hc, ht⟩ := Option.bind_eq_some_iff.1 hg
      obtain ⟨d, m, h1, h2⟩ := ih n cs' _ (by omega) ht
      exact ⟨d, m, cs', hc, h1, by omega, h2⟩
    obtain ⟨d, l, hl, hr⟩ := gather (fun i d d' n ⟨cs, h1, h2, h3, h4⟩ hd => ⟨cs, h1, (h2.le hd).1, h3, by rw [(h2.le hd).2]; exact h4⟩) len hq
    refine ⟨_, d, l, rfl, ⟨some a, cap, by rw [hl], fun h0 => ?_⟩, ?_⟩
    · obtain ⟨b, o, rfl, hlt, hrow⟩ := row_cells (w := w) (base := base) (a := a) (len := len) (k := 12) (Q := fun i cs => ∃ h : i < l.length, SN w (· < w.heap.size) d cs l[i]) (by omega) (fun i hi => by obtain ⟨cs, h1, h2, _⟩ := hr i (by omega); exact ⟨cs, h1, by omega, h2⟩) (by omega)
      refine ⟨b, o, rfl, hlt, hlt, fun i hi => ?_⟩
      obtain ⟨cs', ⟨_, hsn⟩, hc⟩ := hrow i (by omega)
      exact ⟨cs', hsn, hc⟩
    · have hs := sum_le (wt d) Rows.uptoBulk l (elems.map (·.1)) (by simp [hl, hel]) fun i h h' => by
        obtain ⟨_, _, _, hi', he⟩ := hr i h
        simpa using he
      simp only [Rows.uptoBulk, bulkAll_sum]
      omega

/-- What the reading of a node gives. -/
theorem read_node : ∀ (D f : Nat) (cs : List Value) (x : DataW H × List MemPlace), f < D → DataW.trod enc Tryz.prog w base spare held f 25 cs = some x → ∃ d n, SN w (· < w.heap.size) d cs n ∧ wt d n ≤ Rows.uptoBulk x.1
  | 0, _, _, _, h, _ => absurd h (by omega)
  | D + 1, f, cs, x, hf, h => by
    have ih := read_node D
    have hu := und_fields
    cases hp : Tryz.prog.underlying 25 with
    | none => rw [hp] at hu; cases hu
    | some dsc =>
      rw [hp] at hu
      cases dsc with
      | struct fs =>
        obtain ⟨xs, n, rfl, rfl, hl, hxl, hget⟩ := DataW.trod_struct hp h
        rw [cells_sn] at hl
        replace hu : fs.toList.map (fun f => (f.type, f.offset)) = _ := hu
        have hsz : fs.size = 12 := by have := congrArg List.length hu; simpa using this
        have fld : ∀ (i : Nat) (t : TypeId) (o : Nat), (fs.toList.map (fun f => (f.type, f.offset)))[i]? = some (t, o) → Tryz.prog.cellsOf t = 1 → i < 12 → ∃ y, xs[i]? = some y ∧ DataW.trod enc Tryz.prog w base spare held n t ((cs.drop o).take 1) = some y := by
          intro i t o hi hc hlt
          rw [List.getElem?_map] at hi
          cases hf : fs.toList[i]? with
          | none => rw [hf] at hi; cases hi
          | some g =>
            rw [hf] at hi
            obtain ⟨rfl, rfl⟩ : g.type = t ∧ g.offset = o := by simpa using hi
            have := hget i g (by simpa using hf)
            rw [hc] at this
            exact ⟨xs[i]'(by omega), List.getElem?_eq_getElem _, by rw [this, List.getElem?_eq_getElem]⟩
        rw [hu] at fld
        obtain ⟨y0, e0, t0⟩ := fld 0 _ _ rfl cells_int (by omega)
        obtain ⟨y1, e1, t1⟩ := fld 1 _ _ rfl cells_str (by omega)
        obtain ⟨y2, e2, t2⟩ := fld 2 _ _ rfl cells_str (by omega)
        obtain ⟨y3, e3, t3⟩ := fld 3 _ _ rfl cells_strs (by omega)
        obtain ⟨y4, e4, t4⟩ := fld 4 _ _ rfl cells_bool (by omega)
        obtain ⟨y5, e5, t5⟩ := fld 5 _ _ rfl cells_bool (by omega)
        obtain ⟨y6, e6, t6⟩ := fld 6 _ _ rfl cells_sns (by omega)
        obtain ⟨y7, e7, t7⟩ := fld 7 _ _ rfl cells_sns (by omega)
        obtain ⟨y8, e8, t8⟩ := fld 8 _ _ rfl cells_sns (by omega)
        obtain ⟨y9, e9, t9⟩ := fld 9 _ _ rfl cells_bool (by omega)
        obtain ⟨y10, e10, t10⟩ := fld 10 _ _ rfl cells_i64 (by omega)
        obtain ⟨y11, e11, t11⟩ := fld 11 _ _ rfl cells_bool (by omega)
        have hxs : xs = [y0, y1, y2, y3, y4, y5, y6, y7, y8, y9, y10, y11] := by
          apply List.ext_getElem?
          intro i
          rcases Nat.lt_or_ge i 12 with hi | hi
          · have : i = 0 ∨ i = 1 ∨ i = 2 ∨ i = 3 ∨ i = 4 ∨ i = 5 ∨ i = 6 ∨ i = 7 ∨ i = 8 ∨ i = 9 ∨ i = 10 ∨ i = 11 := by omega
            rcases this with rfl | rfl | rfl | rfl | rfl | rfl | rfl | rfl | rfl | rfl | rfl | rfl
            · exact e0
            · exact e1
            · exact e2
            · exact e3
            · exact e4
            · exact e5
            · exact e6
            · exact e7
            · exact e8
            · exact e9
            · exact e10
            · exact e11
          · rw [List.getElem?_eq_none (by omega), List.getElem?_eq_none (by simpa using hi)]
        obtain ⟨k, c0, z0, _⟩ := DataW.trod_int und_int t0
        obtain ⟨tx, c1, z1, _⟩ := DataW.trod_string und_str t1
        obtain ⟨vl, c2, z2, _⟩ := DataW.trod_string und_str t2
        obtain ⟨nv, names, c3, r3, z3⟩ := read_strs t3
        obtain ⟨tru, c4, z4⟩ := DataW.trod_bool und_bool t4
        obtain ⟨asg, c5, z5⟩ := DataW.trod_bool und_bool t5
        obtain ⟨dv, d6, decl, c6, r6, z6⟩ := read_row (D0 := D) (fun g cs x hg => ih g cs x hg) (by omega) t6
        obtain ⟨kv, d7, kids, c7, r7, z7⟩ := read_row (D0 := D) (fun g cs x hg => ih g cs x hg) (by omega) t7
        obtain ⟨ev, d8, els, c8, r8, z8⟩ := read_row (D0 := D) (fun g cs x hg => ih g cs x hg) (by omega) t8
        obtain ⟨b3, c9, z9⟩ := DataW.trod_bool und_bool t9
        obtain ⟨num, c10, z10, _⟩ := DataW.trod_int und_i64 t10
        obtain ⟨ex, c11, z11⟩ := DataW.trod_bool und_bool t11
        have hcs : cs = [.int .i64 k, .string tx, .string vl, nv, .bool tru, .bool asg, dv, kv, ev, .bool b3, .int .i64 num, .bool ex] := by
          have one : ∀ (o : Nat) (v : Value), (cs.drop o).take 1 = [v] → cs[o]? = some v := fun o v h => by
            have := congrArg (fun l => l[0]?) h
            simpa [List.getElem?_take, List.getElem?_drop] using this
          apply List.ext_getElem?
          intro i
          rcases Nat.lt_or_ge i 12 with hi | hi
          · have : i = 0 ∨ i = 1 ∨ i = 2 ∨ i = 3 ∨ i = 4 ∨ i = 5 ∨ i = 6 ∨ i = 7 ∨ i = 8 ∨ i = 9 ∨ i = 10 ∨ i = 11 := by omega
            rcases this with rfl | rfl | rfl | rfl | rfl | rfl | rfl | rfl | rfl | rfl | rfl | rfl
            · exact one _ _ c0
            · exact one _ _ c1
            · exact one _ _ c2
            · exact one _ _ c3
            · exact one _ _ c4
            · exact one _ _ c5
            · exact one _ _ c6
            · exact one _ _ c7
            · exact one _ _ c8
            · exact one _ _ c9
            · exact one _ _ c10
            · exact one _ _ c11
          · rw [List.getElem?_eq_none (by omega), List.getElem?_eq_none (by simpa using hi)]
        have up : ∀ {v : Value} {l : List Nd} {d : Nat}, Row w (· < w.heap.size) 12 (SN w (· < w.heap.size) d) v l → d ≤ max d6 (max d7 d8) →
            Row w (· < w.heap.size) 12 (SN w (· < w.heap.size) (max d6 (max d7 d8))) v l ∧ (l.map (wt (max d6 (max d7 d8)))).sum = (l.map (wt d)).sum := fun {v l d} h hd =>
          ⟨Row.mono (fun cs a _ h => (h.le hd).1) (fun _ h _ => h) (Keeps.refl _ _) h, by
            rw [List.map_congr_left fun a ha => (h.all (p := fun a => wt (max d6 (max d7 d8)) a = wt d a) fun _ _ h => (h.le hd).2) a ha]⟩
        obtain ⟨u6, v6⟩ := up r6 (by omega)
        obtain ⟨u7, v7⟩ := up r7 (by omega)
        obtain ⟨u8, v8⟩ := up r8 (by omega)
        refine ⟨max d6 (max d7 d8) + 1, .mk k tx vl names tru asg decl kids els b3 num ex, ⟨nv, dv, kv, ev, hcs, r3, u6, u7, u8⟩, ?_⟩
        show 1 + tx.size + vl.size + (names.map fun s => s.size + 1).sum + (decl.map (wt (max d6 (max d7 d8)))).sum + (kids.map (wt (max d6 (max d7 d8)))).sum + (els.map (wt (max d6 (max d7 d8)))).sum ≤ _
        rw [v6, v7, v8, hxs]
        simp only [List.map_cons, List.map_nil, Rows.uptoBulk, Rows.uptoBulkAll, z1, z2]
        have h1 : tx.data.toList.length = tx.size := by simp
        have h2 : vl.data.toList.length = vl.size := by simp
        omega
      | _ => cases hu

end
end Go.Proofs.YtiogfkpclkkoaaaGreat

set_option linter.unusedVariables false
set_option linter.unusedSimpArgs false
namespace Go.Proofs.YtiogfkpclkkoaaaGreat
open Go.RowKit Go.ChangeShapes Go.WideShapes Go.ChangeAt

theorem kids : Kids Tryz.prog (· < Tryz.prog.types.size) := kids_rows (by kernel_rfl) (by kernel_rfl)
theorem full : ∀ t e, t < Tryz.prog.types.size → Tryz.prog.underlying t = some (.slice e) → 0 < Tryz.prog.cellsOf e := slices_full_of Tryz.prog (by kernel_rfl)

/-- What was read reads as it did, where nothing below has turned. -/
theorem trodAll_below {H : Type} {enc : TypeId × Value → H} {P : Program} {w w' : World} {base : Nat} {spare : Nat → Bool} {held : Bool} (hb : Below w.heap.size w w') : ∀ {ts : List TypeId} {vs : List Value} {ds : List (DataW H)} {ps : List MemPlace},
    DataW.TrodAll enc P w base spare held ts vs ds ps → (∀ p ∈ ps, p.block < w.heap.size) → DataW.TrodAll enc P w' base spare held ts vs ds ps
  | [], [], [], ps, h, _ => h
  | _ :: _, _ :: _, _ :: _, ps, ⟨p, q, ⟨n, h⟩, hs, e⟩, hl => by
    subst e
    exact ⟨p, q, ⟨n, DataW.trod_carry n _ _ _ h fun x hx => hb.same (hl x (List.mem_append_left _ hx))⟩, trodAll_below hb hs fun x hx => hl x (List.mem_append_right _ hx), rfl⟩

/-- 'post_of_same' for a call that may mark cells in new blocks: the frozen marks are asked for where the arguments lie alone. -/
theorem post_of_below {H : Type} {enc : TypeId × Value → H} {P : Program} {f : Func} {s : ChangeSpec} {apart fresh handsOn again : Bool} {W W' : World} {args : Array Value} {v : Value} {ds gs : List (DataW H)} {before pa pv : List MemPlace}
    (hW : DataW.Whole enc P f.params.toList s.vars apart W args.toList ds gs before)
    (hres : ∀ (b : Nat) (sp : Nat → Bool) (hd : Bool), DataW.TrodAll enc P W' b sp hd f.resultTypes.toList (v.resultList f.resultTypes.size) (s.fn H (ds ++ gs)).results [])
    (hargs : ∀ sp : Nat → Bool, (∀ p ∈ before, sp p.block = true) → DataW.TrodAll enc P W' 0 sp true f.params.toList args.toList (s.fn H (ds ++ gs)).args pa)
    (hvars : ∀ sp : Nat → Bool, (∀ p ∈ before, sp p.block = true) → DataW.TrodVars enc P W' sp s.vars (s.fn H (ds ++ gs)).vars pv)
    (hps : before = pa ++ pv) (hb : Below W.heap.size W W')
    (hok : ∀ (j : Nat) (t : TypeId) (r : Value), f.resultTypes[j]? = some t → (v.resultList f.resultTypes.size)[j]? = some r → Value.okWide P W' .any 0 t r) :
    s.post enc P f apart fresh handsOn again W args v W' := by
  have hold : ∀ p ∈ before, (fun b => decide (b < W.heap.size)) p.block = true := fun p hp => by simpa using hW.lt p hp
  have hlt : ∀ p ∈ before, p.block < W.heap.size := fun p hp => hW.lt p hp
  refine ⟨ds, gs, before, [], pa, pv, hW, hres _ _ _, hargs _ hold, hvars _ hold, World.keptBut_mono (fun p hp => ⟨hp, ?_⟩) (hb.frame (· ∈ before)), fun _ => ?_⟩
  · rw [hps, List.mem_append] at hp
    exact Or.inr hp
  · obtain ⟨_, _, _, _, _, hz, hn⟩ := hW
    refine ⟨hok, _, _, ([] ++ pa) ++ pv, ⟨[] ++ pa, pv, trodAll_append (hargs _ (fun _ _ => rfl)) (hres _ _ _), hvars _ (fun _ _ => rfl), rfl, ?_, ?_⟩, ?_⟩
    · intro b off hp
      have hp' : MemPlace.cell b off ∈ before := by rw [hps]; simpa using hp
      rw [hb.frozen (p := ⟨b, off, none⟩) (hlt _ hp')]
      exact hz b off hp'
    · intro ha
      have := hn ha
      rw [hps] at this
      simpa using this
    · intro p hp _
      rw [hps]
      simpa using hp

end Go.Proofs.YtiogfkpclkkoaaaGreat
