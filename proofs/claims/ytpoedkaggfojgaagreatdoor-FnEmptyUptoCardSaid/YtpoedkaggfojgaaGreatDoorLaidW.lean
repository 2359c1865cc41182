/-
  laws.FnEmpty: a world that holds the tables.
-/
import Derived.Test.YtpoedkaggfojgaaGreatDoorLaw
import Derived.Test.YtpoedkaggfojgaaGreatDoorCards
import Derived.Test.YtpoedkaggfojgaaGreatDoorTie
import Derived.Deep.DeepWitnessRowRef
import Derived.Lib.LaidIn
import Derived.ProofKit
set_option linter.unusedVariables false
set_option linter.unusedSimpArgs false
namespace Go.Proofs.YtpoedkaggfojgaaGreatDoor
open Go.RowKit Go.ChangeShapes Go.WideShapes Go.ChangeAt

theorem own : ownKnob Tryz.prog.godebug = none := by kernel_rfl

/-- The cells of a datum of numbers. -/
def litV : DataW Unit → Value
  | .lit (.int k z) => .int k z
  | _ => .int .i64 0
def aggV : DataW Unit → List Value
  | .agg ps => ps.map litV
  | _ => []
def agg2V : DataW Unit → List Value
  | .agg ps => ps.flatMap aggV
  | _ => []
def wsV : DataW Unit → List Value
  | .ptr (.agg (.slice ps _ :: _)) => ps.flatMap aggV
  | _ => []

/-- A WORLD FOR THE WITNESS: the settled one, the four tables holding what their initialisers lay. -/
noncomputable def laidWorld (os : Os) : World :=
  let n := (World.holding Tryz.prog os ⟨#[], #[], []⟩).heap.size
  let w0 := World.holding Tryz.prog os ⟨#[.cells #[.slice (some ⟨n + 1, 0, none⟩) 7 7, .slice none 0 0, .int .i64 2] 139, .cells (wsV Rows.laid_unicode_White_Space).toArray 142], #[], []⟩
  let put (h : Array Obj) (g : Nat) (cs : Array Value) : Array Obj := h.modify g fun
    | .cells _ t frozen => .cells cs t frozen
    | o => o
  let h1 := put w0.heap 3 (aggV Rows.laid_unicode_utf8_first).toArray
  let h2 := put h1 4 (agg2V Rows.laid_unicode_utf8_acceptRanges).toArray
  let h3 := put h2 1 (aggV Rows.laid_bytes_asciiSpace).toArray
  let h4 := put h3 2 #[.pointer (some ⟨n, 0, none⟩)]
  { w0 with heap := h4 }

def argW : Value := .agg #[.int .i64 0, .string ⟨#[]⟩, .string ⟨#[]⟩, .slice none 0 0, .bool false, .bool false, .slice none 0 0, .slice none 0 0, .slice none 0 0, .bool false, .int .i64 0, .bool false]

theorem laid_met (os : Os) : laidMet Tryz.prog Rows.fnEmptyUptoRow.laid ((laidWorld os).forCall (fun _ _ => 0) ⟨#[], #[argW], []⟩).memory :=
  laidMet_of_run' 8 (by kernel_rfl) (by kernel_rfl)

end Go.Proofs.YtpoedkaggfojgaaGreatDoor
