import Derived.Test.YtnpnclhjfemldaaGreatDoorRows
import Derived.Deep.DeepHandedRow
import Derived.Deep.DeepWitnessRowRef
import Derived.ProofKit
import Derived.Lib.LaidIn
import Derived.Lib.LaidTab
set_option linter.unusedSimpArgs false
set_option linter.unusedVariables false
/- The world of the witness: the six tables lie as the library's text lays them. -/






namespace Go.Proofs.YtnpnclhjfemldaaGreatDoor
open Go.ChangeShapes Go.WideShapes Go.ChangeAt Go.RowKit
def pow2 (x : Nat × Nat) : List Value := [Value.int .u64 x.1, Value.int .u64 x.2]
def powCells : Array Value := (Go.Pinned.pow10Rows.flatMap pow2).toArray
def cheatCells : Array Value := (Go.Pinned.cheatRows.flatMap fun x => [Value.int .i64 x.1, Value.string ⟨x.2.toArray⟩]).toArray
def aggCells (d : DataW Unit) : Array Value := match d with
  | .agg ds => (ds.filterMap fun x => match x with | .lit (.int k n) => some (Value.int k n) | _ => Option.none).toArray
  | _ => #[]
noncomputable abbrev N0 : Nat := (World.settled Tryz.prog default).heap.size
noncomputable def laidWorld (os : Os) : World :=
  let N := (World.settled Tryz.prog os).heap.size
  let w0 := World.holding Tryz.prog os ⟨#[.cells cheatCells 220], #[], []⟩
  let put (h : Array Obj) (g : Nat) (cs : Array Value) : Array Obj := h.modify g fun
    | .cells _ t frozen => .cells cs t frozen
    | o => o
  let h1 := put w0.heap 5 (aggCells Rows.laid_math_bits_deBruijn32tab)
  let h2 := put h1 6 (aggCells Rows.laid_math_bits_deBruijn64tab)
  let h3 := put h2 1 #[.bool true]
  let h4 := put h3 2 (aggCells Rows.laid_internal_strconv_uint64pow10)
  let h5 := put h4 4 #[.slice (some ⟨N, 0, none⟩) 61 61]
  let h6 := put h5 3 powCells
  { w0 with heap := h6 }
theorem piece0 (os : Os) (args : Array Value) : LaidIn Tryz.prog ((laidWorld os).forCall (fun _ _ => 0) ⟨#[], args, []⟩).memory [("math/bits.deBruijn32tab", Rows.laid_math_bits_deBruijn32tab), ("math/bits.deBruijn64tab", Rows.laid_math_bits_deBruijn64tab), ("internal/strconv.optimize", Rows.laid_internal_strconv_optimize), ("internal/strconv.uint64pow10", Rows.laid_internal_strconv_uint64pow10)] [5, 6, 1, 2] :=
  LaidIn.of_run [5, 6, 1, 2] 8 (by kernel_rfl) (by kernel_rfl) (by kernel_rfl) (by kernel_rfl)
theorem piece1 (os : Os) (args : Array Value) : LaidIn Tryz.prog ((laidWorld os).forCall (fun _ _ => 0) ⟨#[], args, []⟩).memory [("internal/strconv.leftcheats", Rows.laid_internal_strconv_leftcheats)] [4, N0] :=
  LaidIn.of_run [4, N0] 8 (by kernel_rfl) (by kernel_rfl) (by kernel_rfl) (by kernel_rfl)
end Go.Proofs.YtnpnclhjfemldaaGreatDoor
