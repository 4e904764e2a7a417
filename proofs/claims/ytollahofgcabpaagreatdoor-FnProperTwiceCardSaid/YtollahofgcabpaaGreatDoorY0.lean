/- The world of the witness: the six tables lie as the library's text lays them. -/
import Derived.Test.YtollahofgcabpaaGreatDoorRows
import Derived.Deep.DeepHandedRow
import Derived.Deep.DeepWitnessRowRef
import Derived.ProofKit
import Derived.Lib.LaidIn
import Derived.Lib.LaidTab
import Derived.Lib.Props
import Derived.Lib.LaidRTabT
import Derived.Great.CaseRows
import Derived.PinnedBridge
set_option linter.unusedSimpArgs false
set_option linter.unusedVariables false
namespace Go.Proofs.YtollahofgcabpaaGreatDoor
open Go.ChangeShapes Go.WideShapes Go.ChangeAt Go.RowKit
def pow2 (x : Nat × Nat) : List Value := [Value.int .u64 x.1, Value.int .u64 x.2]
def powCells : Array Value := (Go.Pinned.pow10Rows.flatMap pow2).toArray
def cheatCells : Array Value := (Go.Pinned.cheatRows.flatMap fun x => [Value.int .i64 x.1, Value.string ⟨x.2.toArray⟩]).toArray
def aggCells (d : DataW Unit) : Array Value := match d with
  | .agg ds => (ds.filterMap fun x => match x with | .lit (.int k n) => some (Value.int k n) | _ => Option.none).toArray
  | _ => #[]
noncomputable abbrev N0 : Nat := (World.settled Tryz.prog default).heap.size
noncomputable def laidWorld (os : Os) : World :=
  let N := (World.settled Tryz.prog os).heap.size
  let w0 := World.holding Tryz.prog os ⟨#[.cells cheatCells 191, .cells #[.string ⟨#[98, 121, 116, 101, 115, 46, 66, 117, 102, 102, 101, 114, 58, 32, 116, 111, 111, 32, 108, 97, 114, 103, 101]⟩] 231, .cells (Lib.caseT.flatMap Lib.cells5).toArray 161, .cells (Lib.rgCells .u16 Lib.letterT.r16) 118, .cells (Lib.rgCells .u32 Lib.letterT.r32) 121, .cells #[.slice (some ⟨N + 3, 0, none⟩) Lib.letterT.r16.size Lib.letterT.r16.size, .slice (some ⟨N + 4, 0, none⟩) Lib.letterT.r32.size Lib.letterT.r32.size, .int .i64 Lib.letterT.off] 115], #[], []⟩
  let put (h : Array Obj) (g : Nat) (cs : Array Value) : Array Obj := h.modify g fun
    | .cells _ t frozen => .cells cs t frozen
    | o => o
  let h1 := put w0.heap 9 (aggCells Rows.laid_math_bits_deBruijn32tab)
  let h2 := put h1 10 (aggCells Rows.laid_math_bits_deBruijn64tab)
  let h3 := put h2 5 #[.bool true]
  let h4 := put h3 6 (aggCells Rows.laid_internal_strconv_uint64pow10)
  let h5 := put h4 8 #[.slice (some ⟨N, 0, none⟩) 61 61]
  let h6 := put h5 7 powCells
  let h7 := put h6 2 #[.iface 199 (.pointer (some ⟨N + 1, 0, none⟩))]
  let h8 := put h7 0 (aggCells Rows.laid_unicode_properties)
  let h9 := put h8 3 #[.slice (some ⟨N + 2, 0, none⟩) Lib.caseT.length Lib.caseT.length]
  let h10 := put h9 1 #[.pointer (some ⟨N + 5, 0, none⟩)]
  { w0 with heap := h10 }
theorem piece0 (os : Os) (args : Array Value) : LaidIn Tryz.prog ((laidWorld os).forCall (fun _ _ => 0) ⟨#[], args, []⟩).memory [("math/bits.deBruijn32tab", Rows.laid_math_bits_deBruijn32tab), ("math/bits.deBruijn64tab", Rows.laid_math_bits_deBruijn64tab), ("internal/strconv.optimize", Rows.laid_internal_strconv_optimize), ("internal/strconv.uint64pow10", Rows.laid_internal_strconv_uint64pow10), ("unicode.properties", Rows.laid_unicode_properties)] [9, 10, 5, 6, 0] :=
  LaidIn.of_run [9, 10, 5, 6, 0] 8 (by kernel_rfl) (by kernel_rfl) (by kernel_rfl) (by kernel_rfl)
theorem piece1 (os : Os) (args : Array Value) : LaidIn Tryz.prog ((laidWorld os).forCall (fun _ _ => 0) ⟨#[], args, []⟩).memory [("internal/strconv.leftcheats", Rows.laid_internal_strconv_leftcheats)] [8, N0] :=
  LaidIn.of_run [8, N0] 8 (by kernel_rfl) (by kernel_rfl) (by kernel_rfl) (by kernel_rfl)
theorem pieceE (os : Os) (args : Array Value) : LaidIn Tryz.prog ((laidWorld os).forCall (fun _ _ => 0) ⟨#[], args, []⟩).memory [("bytes.ErrTooLarge", Rows.laid_bytes_ErrTooLarge)] [2, N0 + 1] :=
  LaidIn.of_run [2, N0 + 1] 8 (by kernel_rfl) (by kernel_rfl) (by kernel_rfl) (by kernel_rfl)
theorem Tryz.caseTy : Great.CTypes Tryz.prog 126 161 159 92 21 :=
  ⟨Tryz.underlying126, Tryz.underlying161, Tryz.underlying159, Tryz.underlying92, Tryz.underlying21, by kernel_rfl, by kernel_rfl, by kernel_rfl, by kernel_rfl⟩
theorem case_wf : Lib.caseT.all Lib.rowWf = true := by kernel_rfl
theorem case_var (os : Os) (args : Array Value) : ((laidWorld os).forCall (fun _ _ => 0) ⟨#[], args, []⟩).memory.heap[3]? = some (.cells #[.slice (some ⟨N0 + 2, 0, none⟩) Lib.caseT.length Lib.caseT.length] 126 (0, 0)) := by kernel_rfl
theorem case_blk (os : Os) (args : Array Value) : ((laidWorld os).forCall (fun _ _ => 0) ⟨#[], args, []⟩).memory.heap[N0 + 2]? = some (.cells (Lib.caseT.flatMap Lib.cells5).toArray 161 (0, 0)) := by kernel_rfl
theorem pieceC (os : Os) (args : Array Value) : LaidIn Tryz.prog ((laidWorld os).forCall (fun _ _ => 0) ⟨#[], args, []⟩).memory [("unicode.CaseRanges", Rows.laid_unicode_CaseRanges)] [3, N0 + 2] := by
  have h := Great.laidIn_case Tryz.caseTy (w := ((laidWorld os).forCall (fun _ _ => 0) ⟨#[], args, []⟩).memory) (name := "unicode.CaseRanges") (g := 3) (B := N0 + 2) Lib.caseT (by kernel_rfl) (by kernel_rfl) (Nat.le_of_ble_eq_true (by kernel_rfl)) case_wf (case_var os args) (case_blk os args) (of_decide_eq_true (by kernel_rfl))
  have e : Rows.laid_unicode_CaseRanges = Lib.caseData := (show Rows.laid_unicode_CaseRanges = Go.Pinned.caseRanges from rfl).trans Pinned.caseRanges_eq
  rw [e]; exact h
/-- The numbers of the table's types, under the shelf's names for them. -/
def tyRen : Go.Shelf.Ren := ⟨fun n => n, fun | 3 => 3 | 49 => 116 | 51 => 92 | 141 => 95 | 193 => 112 | 194 => 113 | 196 => 115 | 198 => 118 | 201 => 121 | n => n, fun n => n⟩
theorem Tryz.letTy : RTypes Tryz.prog tyRen := ⟨Tryz.underlying3, Tryz.underlying116, Tryz.underlying92, Tryz.underlying95, Tryz.underlying112, Tryz.underlying113, Tryz.underlying115, Tryz.underlying118, Tryz.underlying121⟩
theorem Tryz.letEx : RExtra Tryz.prog tyRen := ⟨by kernel_rfl, by kernel_rfl, by kernel_rfl, by kernel_rfl, by kernel_rfl, by kernel_rfl, by kernel_rfl, by kernel_rfl⟩
theorem pieceL (os : Os) (args : Array Value) : LaidIn Tryz.prog ((laidWorld os).forCall (fun _ _ => 0) ⟨#[], args, []⟩).memory [("unicode.Letter", Rows.laid_unicode_Letter)] [1, N0 + 5, N0 + 3, N0 + 4] := by
  have h := laidIn_rtabT Tryz.letTy Tryz.letEx (w := ((laidWorld os).forCall (fun _ _ => 0) ⟨#[], args, []⟩).memory) (name := "unicode.Letter") (g := 1) (by kernel_rfl) (by kernel_rfl) Lib.letterT (N0 + 5) (N0 + 3) (N0 + 4) 118 121
    (by kernel_rfl) (by kernel_rfl) (by kernel_rfl) (by kernel_rfl) (by kernel_rfl) (of_decide_eq_true (by kernel_rfl)) (of_decide_eq_true (by kernel_rfl)) (of_decide_eq_true (by kernel_rfl))
  have e : Rows.laid_unicode_Letter = Lib.rtabData Lib.letterT := (show Rows.laid_unicode_Letter = Go.Pinned.letter from rfl).trans Pinned.letter_eq
  rw [e]; exact h
end Go.Proofs.YtollahofgcabpaaGreatDoor
