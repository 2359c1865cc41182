/-
  How a node of the package lies in memory.
-/
import Derived.Test.YtiogfkpclkkoaaaGreatFactsG
import Derived.OwnWalk
set_option linter.unusedVariables false
set_option linter.unusedSimpArgs false
namespace Go.Proofs.YtiogfkpclkkoaaaGreat
open Go.RowKit

/-- The pointer type of a node of a kind. -/
def ptrT (k : Int) : TypeId :=
  if k = 1 then 50 else if k = 2 then 93 else if k = 3 then 60 else if k = 4 then 109 else if k = 5 then 103 else
  if k = 6 then 63 else if k = 7 then 66 else if k = 8 then 69 else if k = 9 then 116 else if k = 10 then 106 else
  if k = 11 then 72 else if k = 12 then 74 else if k = 13 then 90 else if k = 14 then 119 else if k = 15 then 80 else
  if k = 16 then 96 else if k = 17 then 83 else if k = 18 then 121 else if k = 19 then 57 else if k = 20 then 85 else 88

/-- A pointer to the head of a block. -/
def ptr (b : Nat) : Value := .pointer (some ⟨b, 0, none⟩)
/-- A node as a value of the interface. -/
def ifc (n : Nd) (b : Nat) : Value := .iface (ptrT n.kind) (.pointer (some ⟨b, 0, none⟩))

/-- A slice of bytes that reads as s. -/
def Bytes (w : World) (S : Nat → Prop) (v : Value) (s : ByteArray) : Prop :=
  ∃ b cap, v = .slice (some ⟨b, 0, none⟩) s.size cap ∧ s.size ≤ cap ∧ S b ∧ b < w.heap.size ∧ ∀ j, (h : j < s.data.toList.length) → w.cell? ⟨b, j, none⟩ = some (.int .u8 (s.data.toList[j].toNat : Int))

/-- A slice of nodes in a row of the call's own. -/
def RowP (w : World) (S : Nat → Prop) (E : TypeId) (f : Nd → Nat → Value) (sub : Nat → Nd → Prop) (v : Value) (l : List Nd) : Prop :=
  (v = .slice none 0 0 ∧ l = []) ∨
  ∃ g cap cur, v = .slice (some ⟨g, 0, none⟩) l.length cap ∧ S g ∧ w.heap[g]? = some (.cells cur E (0, 0)) ∧ ∀ i, (h : i < l.length) → ∃ b, cur[i]? = some (f l[i] b) ∧ sub b l[i]

/-- What the block of a node holds: its element type, its cells. -/
inductive PBody (w : World) (S : Nat → Prop) (trv : Value) (sub : Nat → Nd → Prop) : Nd → TypeId → Array Value → Prop
  | text {n : Nd} (h : n.kind = 1) {bv : Value} (hb : Bytes w S bv n.text) : PBody w S trv sub n 56 #[.int .i64 0, .int .i64 0, trv, bv]
  | comment {n : Nd} (h : n.kind = 19) : PBody w S trv sub n 59 #[.int .i64 20, .int .i64 0, trv, .string n.text]
  | bool {n : Nd} (h : n.kind = 3) : PBody w S trv sub n 62 #[.int .i64 2, .int .i64 0, trv, .bool n.tru]
  | dot {n : Nd} (h : n.kind = 6) : PBody w S trv sub n 65 #[.int .i64 5, .int .i64 0, trv]
  | field {n : Nd} (h : n.kind = 7) {nv : Value} (hn : Strs w S nv n.names) : PBody w S trv sub n 68 #[.int .i64 8, .int .i64 0, trv, nv]
  | ident {n : Nd} (h : n.kind = 8) : PBody w S trv sub n 71 #[.int .i64 9, .int .i64 0, trv, .string n.text]
  | nil {n : Nd} (h : n.kind = 11) : PBody w S trv sub n 73 #[.int .i64 12, .int .i64 0, trv]
  | num {n : Nd} (h : n.kind = 12) (b1 b2 b3 b4 : Bool) (x y : Int) (f re im : Nat) : PBody w S trv sub n 79 #[.int .i64 13, .int .i64 0, trv, .bool b1, .bool b2, .bool b3, .bool b4, .int .i64 x, .int .u64 y, .float .f64 f, .complex .f64 re im, .string n.text]
  | str {n : Nd} (h : n.kind = 15) : PBody w S trv sub n 82 #[.int .i64 16, .int .i64 0, trv, .string n.text, .string n.value]
  | var {n : Nd} (h : n.kind = 17) {nv : Value} (hn : Strs w S nv n.names) : PBody w S trv sub n 84 #[.int .i64 18, .int .i64 0, trv, nv]
  | brk {n : Nd} (h : n.kind = 20) : PBody w S trv sub n 87 #[trv, .int .i64 21, .int .i64 0, .int .i64 0]
  | cont {n : Nd} (h : n.kind = 21) : PBody w S trv sub n 89 #[trv, .int .i64 22, .int .i64 0, .int .i64 0]
  | action {n : Nd} (h : n.kind = 2) {p : Nd} {b : Nat} (hk : n.kids = [p]) (hp : p.kind = 13) (hs : sub b p) : PBody w S trv sub n 95 #[.int .i64 1, .int .i64 0, trv, .int .i64 0, .pointer (some ⟨b, 0, none⟩)]
  | tpl0 {n : Nd} (h : n.kind = 16) (hk : n.kids = []) : PBody w S trv sub n 98 #[.int .i64 17, .int .i64 0, trv, .int .i64 0, .string n.text, .pointer none]
  | tpl1 {n : Nd} (h : n.kind = 16) {p : Nd} {b : Nat} (hk : n.kids = [p]) (hp : p.kind = 13) (hs : sub b p) : PBody w S trv sub n 98 #[.int .i64 17, .int .i64 0, trv, .int .i64 0, .string n.text, .pointer (some ⟨b, 0, none⟩)]
  | pipe {n : Nd} (h : n.kind = 13) {dv kv : Value} (hd : ∀ p ∈ n.decl, p.kind = 17) (hk : ∀ p ∈ n.kids, p.kind = 5) (rd : RowP w S 83 (fun _ b => .pointer (some ⟨b, 0, none⟩)) sub dv n.decl) (rk : RowP w S 103 (fun _ b => .pointer (some ⟨b, 0, none⟩)) sub kv n.kids) :
      PBody w S trv sub n 138 #[.int .i64 14, .int .i64 0, trv, .int .i64 0, .bool n.assign, dv, kv]
  | command {n : Nd} (h : n.kind = 5) {kv : Value} (rk : RowP w S 41 ifc sub kv n.kids) : PBody w S trv sub n 105 #[.int .i64 4, .int .i64 0, trv, kv]
  | list {n : Nd} (h : n.kind = 10) {kv : Value} (rk : RowP w S 41 ifc sub kv n.kids) : PBody w S trv sub n 142 #[.int .i64 11, .int .i64 0, trv, kv]
  | chain {n : Nd} (h : n.kind = 4) {p : Nd} {b : Nat} {nv : Value} (hk : n.kids = [p]) (hs : sub b p) (hn : Strs w S nv n.names) : PBody w S trv sub n 111 #[.int .i64 3, .int .i64 0, trv, .iface (ptrT p.kind) (.pointer (some ⟨b, 0, none⟩)), nv]
  | branch0 {n : Nd} {ty : Int} {E : TypeId} (h : (n.kind = 9 ∧ ty = 10 ∧ E = 118) ∨ (n.kind = 14 ∧ ty = 15 ∧ E = 120) ∨ (n.kind = 18 ∧ ty = 19 ∧ E = 122)) {p l : Nd} {bp bl : Nat}
      (hk : n.kids = [p, l]) (he : n.hasElse = false) (hp : p.kind = 13) (hl : l.kind = 10) (sp : sub bp p) (sl : sub bl l) :
      PBody w S trv sub n E #[.int .i64 ty, .int .i64 0, trv, .int .i64 0, .pointer (some ⟨bp, 0, none⟩), .pointer (some ⟨bl, 0, none⟩), .pointer none]
  | branch1 {n : Nd} {ty : Int} {E : TypeId} (h : (n.kind = 9 ∧ ty = 10 ∧ E = 118) ∨ (n.kind = 14 ∧ ty = 15 ∧ E = 120) ∨ (n.kind = 18 ∧ ty = 19 ∧ E = 122)) {p l e : Nd} {bp bl be : Nat}
      (hk : n.kids = [p, l]) (he : n.hasElse = true) (hels : n.els = [e]) (hp : p.kind = 13) (hl : l.kind = 10) (hle : e.kind = 10) (sp : sub bp p) (sl : sub bl l) (se : sub be e) :
      PBody w S trv sub n E #[.int .i64 ty, .int .i64 0, trv, .int .i64 0, .pointer (some ⟨bp, 0, none⟩), .pointer (some ⟨bl, 0, none⟩), .pointer (some ⟨be, 0, none⟩)]

/-- A node at the head of block b, and all below it: node blocks from 'base' on; tr: what the field of the tree holds. -/
def PN (w : World) (base : Nat) (S : Nat → Prop) (tr : Value → Prop) : Nat → Nat → Nd → Prop
  | 0, _, _ => False
  | d + 1, b, n => base ≤ b ∧ S b ∧ ∃ trv E cs, tr trv ∧ w.heap[b]? = some (.cells cs E (0, 0)) ∧ PBody w S trv (PN w base S tr d) n E cs

theorem PN.lt {w : World} {base : Nat} {S : Nat → Prop} {tr : Value → Prop} {d b : Nat} {n : Nd} (h : PN w base S tr d b n) : b < w.heap.size := by
  cases d with
  | zero => exact h.elim
  | succ d => obtain ⟨_, _, _, _, _, _, hb, _⟩ := h; exact lt_of_block hb

/-! ### It stays where the blocks stay -/
def Stays (S : Nat → Prop) (w w' : World) : Prop := ∀ b, S b → b < w.heap.size → w'.heap[b]? = w.heap[b]?
theorem Stays.keeps {S : Nat → Prop} {w w' : World} (h : Stays S w w') : Keeps S w w' := Keeps.of_blocks h
theorem Stays.of_below {S : Nat → Prop} {w w' : World} (h : Below w.heap.size w w') : Stays S w w' := fun b _ hl => h.block b hl

theorem Bytes.mono {w w' : World} {S S' : Nat → Prop} {v : Value} {s : ByteArray} (hS : ∀ b, S b → b < w.heap.size → S' b) (hk : Keeps S w w') (h : Bytes w S v s) : Bytes w' S' v s := by
  obtain ⟨b, cap, e, hcap, hb, hl, hc⟩ := h
  exact ⟨b, cap, e, hcap, hS b hb hl, (hk b hb hl).1, fun j hj => (hk b hb hl).2 _ _ (hc j hj)⟩
theorem RowP.mono {w w' : World} {S S' : Nat → Prop} {E : TypeId} {f : Nd → Nat → Value} {sub sub' : Nat → Nd → Prop} {v : Value} {l : List Nd} (hS : ∀ b, S b → b < w.heap.size → S' b) (hk : Stays S w w')
    (hs : ∀ b n, sub b n → sub' b n) (h : RowP w S E f sub v l) : RowP w' S' E f sub' v l := by
  rcases h with h | ⟨g, cap, cur, e, hg, hh, hc⟩
  · exact Or.inl h
  · refine Or.inr ⟨g, cap, cur, e, hS g hg (lt_of_block hh), (hk g hg (lt_of_block hh)).trans hh, fun i hi => ?_⟩
    obtain ⟨b, h1, h2⟩ := hc i hi
    exact ⟨b, h1, hs _ _ h2⟩
theorem PBody.mono {w w' : World} {S S' : Nat → Prop} {trv : Value} {sub sub' : Nat → Nd → Prop} {n : Nd} {E : TypeId} {cs : Array Value} (hS : ∀ b, S b → b < w.heap.size → S' b) (hk : Stays S w w')
    (hs : ∀ b n, sub b n → sub' b n) (h : PBody w S trv sub n E cs) : PBody w' S' trv sub' n E cs := by
  cases h with
  | text h hb => exact .text h (hb.mono hS hk.keeps)
  | comment h => exact .comment h
  | bool h => exact .bool h
  | dot h => exact .dot h
  | field h hn => exact .field h (hn.mono hS hk.keeps)
  | ident h => exact .ident h
  | nil h => exact .nil h
  | num h b1 b2 b3 b4 x y f re im => exact .num h b1 b2 b3 b4 x y f re im
  | str h => exact .str h
  | var h hn => exact .var h (hn.mono hS hk.keeps)
  | brk h => exact .brk h
  | cont h => exact .cont h
  | action h hk' hp hs' => exact .action h hk' hp (hs _ _ hs')
  | tpl0 h hk' => exact .tpl0 h hk'
  | tpl1 h hk' hp hs' => exact .tpl1 h hk' hp (hs _ _ hs')
  | pipe h hd hk' rd rk => exact .pipe h hd hk' (rd.mono hS hk hs) (rk.mono hS hk hs)
  | command h rk => exact .command h (rk.mono hS hk hs)
  | list h rk => exact .list h (rk.mono hS hk hs)
  | chain h hk' hs' hn => exact .chain h hk' (hs _ _ hs') (hn.mono hS hk.keeps)
  | branch0 h hk' he hp hl sp sl => exact .branch0 h hk' he hp hl (hs _ _ sp) (hs _ _ sl)
  | branch1 h hk' he hels hp hl hle sp sl se => exact .branch1 h hk' he hels hp hl hle (hs _ _ sp) (hs _ _ sl) (hs _ _ se)

theorem PN.mono {w w' : World} {base base' : Nat} {S S' : Nat → Prop} {tr : Value → Prop} (hbase : base' ≤ base) (hS : ∀ b, S b → b < w.heap.size → S' b) (hk : Stays S w w') : ∀ d b n, PN w base S tr d b n → PN w' base' S' tr d b n
  | 0, _, _, h => h
  | d + 1, b, n, h => by
    obtain ⟨h1, h2, trv, E, cs, ht, hb, hbody⟩ := h
    exact ⟨Nat.le_trans hbase h1, hS b h2 (lt_of_block hb), trv, E, cs, ht, (hk b h2 (lt_of_block hb)).trans hb, hbody.mono hS hk (PN.mono hbase hS hk d)⟩

theorem PN.tr_imp {w : World} {base : Nat} {S : Nat → Prop} {tr tr' : Value → Prop} (ht : ∀ v, tr v → tr' v) : ∀ d b n, PN w base S tr d b n → PN w base S tr' d b n
  | 0, _, _, h => h
  | d + 1, b, n, h => by
    obtain ⟨h1, h2, trv, E, cs, h3, hb, hbody⟩ := h
    exact ⟨h1, h2, trv, E, cs, ht _ h3, hb, hbody.mono (fun _ h _ => h) (fun _ _ _ => rfl) (PN.tr_imp ht d)⟩

end Go.Proofs.YtiogfkpclkkoaaaGreat
