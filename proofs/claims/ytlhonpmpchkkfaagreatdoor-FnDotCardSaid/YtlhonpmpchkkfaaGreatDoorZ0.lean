import Derived.Test.YtlhonpmpchkkfaaGreatDoorRows
import Derived.Deep.DeepHandedRow
import Derived.Deep.DeepWitnessRowRef
import Derived.ProofKit
import Derived.Lib.LaidIn
import Derived.Lib.LaidTab
set_option linter.unusedSimpArgs false
set_option linter.unusedVariables false
/- The world of the witness: the thirteen tables lie as the library's text lays them. -/






namespace Go.Proofs.YtlhonpmpchkkfaaGreatDoor
open Go.ChangeShapes Go.WideShapes Go.ChangeAt Go.RowKit
def pow2 (x : Nat × Nat) : List Value := [Value.int .u64 x.1, Value.int .u64 x.2]
def powCells : Array Value := (Go.Pinned.pow10Rows.flatMap pow2).toArray
def cheatCells : Array Value := (Go.Pinned.cheatRows.flatMap fun x => [Value.int .i64 x.1, Value.string ⟨x.2.toArray⟩]).toArray
def aggCells (d : DataW Unit) : Array Value := match d with
  | .agg ds => (ds.filterMap fun x => match x with | .lit (.int k n) => some (Value.int k n) | _ => Option.none).toArray
  | _ => #[]
def sliceCells (d : DataW Unit) : Array Value := match d with
  | .slice ds _ => (ds.filterMap fun x => match x with | .lit (.int k n) => some (Value.int k n) | .lit (.float k n) => some (Value.float k n) | _ => Option.none).toArray
  | _ => #[]
noncomputable abbrev N0 : Nat := (World.settled Tryz.prog default).heap.size
noncomputable def laidWorld (os : Os) : World :=
  let N := (World.settled Tryz.prog os).heap.size
  let w0 := World.holding Tryz.prog os ⟨#[.cells cheatCells 203, .cells #[.string ⟨#[118, 97, 108, 117, 101, 32, 111, 117, 116, 32, 111, 102, 32, 114, 97, 110, 103, 101]⟩] 152, .cells #[.string ⟨#[105, 110, 118, 97, 108, 105, 100, 32, 115, 121, 110, 116, 97, 120]⟩] 152, .cells (sliceCells Rows.laid_internal_strconv_powtab) 3, .cells (sliceCells Rows.laid_internal_strconv_float64pow10) 27, .cells (sliceCells Rows.laid_internal_strconv_float32pow10) 109], #[], []⟩
  let put (h : Array Obj) (g : Nat) (cs : Array Value) : Array Obj := h.modify g fun
    | .cells _ t frozen => .cells cs t frozen
    | o => o
  let h1 := put w0.heap 12 (aggCells Rows.laid_math_bits_deBruijn32tab)
  let h2 := put h1 13 (aggCells Rows.laid_math_bits_deBruijn64tab)
  let h3 := put h2 3 (aggCells Rows.laid_internal_strconv_float32info)
  let h4 := put h3 5 (aggCells Rows.laid_internal_strconv_float64info)
  let h5 := put h4 4 #[.bool true]
  let h6 := put h5 7 #[.slice (some ⟨N + 3, 0, none⟩) 9 9]
  let h7 := put h6 8 #[.slice (some ⟨N + 4, 0, none⟩) 23 23]
  let h8 := put h7 6 #[.slice (some ⟨N + 5, 0, none⟩) 11 11]
  let h9 := put h8 9 (aggCells Rows.laid_internal_strconv_uint64pow10)
  let h10 := put h9 2 #[.iface 150 (.pointer (some ⟨N + 1, 0, none⟩))]
  let h11 := put h10 1 #[.iface 150 (.pointer (some ⟨N + 2, 0, none⟩))]
  let h12 := put h11 11 #[.slice (some ⟨N, 0, none⟩) 61 61]
  let h13 := put h12 10 powCells
  { w0 with heap := h13 }
theorem piece0 (os : Os) (args : Array Value) : LaidIn Tryz.prog ((laidWorld os).forCall (fun _ _ => 0) ⟨#[], args, []⟩).memory [("math/bits.deBruijn32tab", Rows.laid_math_bits_deBruijn32tab), ("math/bits.deBruijn64tab", Rows.laid_math_bits_deBruijn64tab), ("internal/strconv.float32info", Rows.laid_internal_strconv_float32info), ("internal/strconv.float64info", Rows.laid_internal_strconv_float64info), ("internal/strconv.optimize", Rows.laid_internal_strconv_optimize)] [12, 13, 3, 5, 4] :=
  LaidIn.of_run [12, 13, 3, 5, 4] 8 (by kernel_rfl) (by kernel_rfl) (by kernel_rfl) (by kernel_rfl)
theorem pieceA (os : Os) (args : Array Value) : LaidIn Tryz.prog ((laidWorld os).forCall (fun _ _ => 0) ⟨#[], args, []⟩).memory [("internal/strconv.powtab", Rows.laid_internal_strconv_powtab)] [7, N0 + 3] :=
  LaidIn.of_run [7, N0 + 3] 8 (by kernel_rfl) (by kernel_rfl) (by kernel_rfl) (by kernel_rfl)
theorem pieceB (os : Os) (args : Array Value) : LaidIn Tryz.prog ((laidWorld os).forCall (fun _ _ => 0) ⟨#[], args, []⟩).memory [("internal/strconv.float64pow10", Rows.laid_internal_strconv_float64pow10)] [8, N0 + 4] :=
  LaidIn.of_run [8, N0 + 4] 8 (by kernel_rfl) (by kernel_rfl) (by kernel_rfl) (by kernel_rfl)
theorem pieceC (os : Os) (args : Array Value) : LaidIn Tryz.prog ((laidWorld os).forCall (fun _ _ => 0) ⟨#[], args, []⟩).memory [("internal/strconv.float32pow10", Rows.laid_internal_strconv_float32pow10)] [6, N0 + 5] :=
  LaidIn.of_run [6, N0 + 5] 8 (by kernel_rfl) (by kernel_rfl) (by kernel_rfl) (by kernel_rfl)
theorem pieceD (os : Os) (args : Array Value) : LaidIn Tryz.prog ((laidWorld os).forCall (fun _ _ => 0) ⟨#[], args, []⟩).memory [("internal/strconv.uint64pow10", Rows.laid_internal_strconv_uint64pow10)] [9] :=
  LaidIn.of_run [9] 8 (by kernel_rfl) (by kernel_rfl) (by kernel_rfl) (by kernel_rfl)
theorem pieceE (os : Os) (args : Array Value) : LaidIn Tryz.prog ((laidWorld os).forCall (fun _ _ => 0) ⟨#[], args, []⟩).memory [("strconv.ErrRange", Rows.laid_strconv_ErrRange)] [2, N0 + 1] :=
  LaidIn.of_run [2, N0 + 1] 8 (by kernel_rfl) (by kernel_rfl) (by kernel_rfl) (by kernel_rfl)
theorem pieceF (os : Os) (args : Array Value) : LaidIn Tryz.prog ((laidWorld os).forCall (fun _ _ => 0) ⟨#[], args, []⟩).memory [("strconv.ErrSyntax", Rows.laid_strconv_ErrSyntax)] [1, N0 + 2] :=
  LaidIn.of_run [1, N0 + 2] 8 (by kernel_rfl) (by kernel_rfl) (by kernel_rfl) (by kernel_rfl)
theorem piece1 (os : Os) (args : Array Value) : LaidIn Tryz.prog ((laidWorld os).forCall (fun _ _ => 0) ⟨#[], args, []⟩).memory [("internal/strconv.leftcheats", Rows.laid_internal_strconv_leftcheats)] [11, N0] :=
  LaidIn.of_run [11, N0] 8 (by kernel_rfl) (by kernel_rfl) (by kernel_rfl) (by kernel_rfl)
end Go.Proofs.YtlhonpmpchkkfaaGreatDoor
