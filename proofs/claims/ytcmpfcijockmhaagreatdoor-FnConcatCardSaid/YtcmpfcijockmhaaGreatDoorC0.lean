/- The world of the witness: the six tables lie as the library's text lays them. -/
import Derived.Test.YtcmpfcijockmhaaGreatDoorRows
import Derived.Deep.DeepHandedRow
import Derived.Deep.DeepWitnessRowRef
import Derived.ProofKit
import Derived.Lib.LaidIn
import Derived.Lib.LaidTab
set_option linter.unusedSimpArgs false
set_option linter.unusedVariables false
namespace Go.Proofs.YtcmpfcijockmhaaGreatDoor
open Go.ChangeShapes Go.WideShapes Go.ChangeAt Go.RowKit
def pow2 (x : Nat × Nat) : List Value := [Value.int .u64 x.1, Value.int .u64 x.2]
def powCells : Array Value := (Go.Pinned.pow10Rows.flatMap pow2).toArray
def cheatCells : Array Value := (Go.Pinned.cheatRows.flatMap fun x => [Value.int .i64 x.1, Value.string ⟨x.2.toArray⟩]).toArray
def aggCells (d : DataW Unit) : Array Value := match d with
  | .agg ds => (ds.filterMap fun x => match x with | .lit (.int k n) => some (Value.int k n) | _ => Option.none).toArray
  | _ => #[]
noncomputable abbrev N0 : Nat := (World.settled Tryz.prog default).heap.size
noncomputable def laidWorld (os : Os) : World :=
  let N := (World.settled Tryz.prog os).heap.size
  let w0 := World.holding Tryz.prog os ⟨#[.cells cheatCells 238, .cells #[.string ⟨#[98, 121, 116, 101, 115, 46, 66, 117, 102, 102, 101, 114, 58, 32, 116, 111, 111, 32, 108, 97, 114, 103, 101]⟩] 278], #[], []⟩
  let put (h : Array Obj) (g : Nat) (cs : Array Value) : Array Obj := h.modify g fun
    | .cells _ t frozen => .cells cs t frozen
    | o => o
  let h1 := put w0.heap 6 (aggCells Rows.laid_math_bits_deBruijn32tab)
  let h2 := put h1 7 (aggCells Rows.laid_math_bits_deBruijn64tab)
  let h3 := put h2 2 #[.bool true]
  let h4 := put h3 3 (aggCells Rows.laid_internal_strconv_uint64pow10)
  let h5 := put h4 5 #[.slice (some ⟨N, 0, none⟩) 61 61]
  let h6 := put h5 4 powCells
  let h7 := put h6 1 #[.iface 246 (.pointer (some ⟨N + 1, 0, none⟩))]
  { w0 with heap := h7 }
theorem piece0 (os : Os) (args : Array Value) : LaidIn Tryz.prog ((laidWorld os).forCall (fun _ _ => 0) ⟨#[], args, []⟩).memory [("math/bits.deBruijn32tab", Rows.laid_math_bits_deBruijn32tab), ("math/bits.deBruijn64tab", Rows.laid_math_bits_deBruijn64tab), ("internal/strconv.optimize", Rows.laid_internal_strconv_optimize), ("internal/strconv.uint64pow10", Rows.laid_internal_strconv_uint64pow10)] [6, 7, 2, 3] :=
  LaidIn.of_run [6, 7, 2, 3] 8 (by kernel_rfl) (by kernel_rfl) (by kernel_rfl) (by kernel_rfl)
theorem piece1 (os : Os) (args : Array Value) : LaidIn Tryz.prog ((laidWorld os).forCall (fun _ _ => 0) ⟨#[], args, []⟩).memory [("internal/strconv.leftcheats", Rows.laid_internal_strconv_leftcheats)] [5, N0] :=
  LaidIn.of_run [5, N0] 8 (by kernel_rfl) (by kernel_rfl) (by kernel_rfl) (by kernel_rfl)
theorem pieceE (os : Os) (args : Array Value) : LaidIn Tryz.prog ((laidWorld os).forCall (fun _ _ => 0) ⟨#[], args, []⟩).memory [("bytes.ErrTooLarge", Rows.laid_bytes_ErrTooLarge)] [1, N0 + 1] :=
  LaidIn.of_run [1, N0 + 1] 8 (by kernel_rfl) (by kernel_rfl) (by kernel_rfl) (by kernel_rfl)
end Go.Proofs.YtcmpfcijockmhaaGreatDoor
