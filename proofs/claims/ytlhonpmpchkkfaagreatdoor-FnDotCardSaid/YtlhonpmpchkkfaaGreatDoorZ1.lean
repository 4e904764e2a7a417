import Derived.Test.YtlhonpmpchkkfaaGreatDoorZ0
import Derived.Lib.LaidCaseMet
set_option linter.unusedSimpArgs false
set_option linter.unusedVariables false
/- The great table of powers of ten reads as the form's constant: by a law, not by the kernel's run. -/


namespace Go.Proofs.YtlhonpmpchkkfaaGreatDoor
open Go.ChangeShapes Go.WideShapes Go.ChangeAt Go.RowKit
def powD (x : Nat × Nat) : DataW Unit := .agg [.lit (.int .u64 x.1), .lit (.int .u64 x.2)]
def powWf (x : Nat × Nat) : Bool := (Lit.int .u64 x.1).wf && (Lit.int .u64 x.2).wf
theorem pow_wf : Go.Pinned.pow10Rows.all powWf = true := by kernel_rfl
theorem pow_len : Go.Pinned.pow10Rows.length = 696 := by kernel_rfl
theorem pow_list : powCells.toList = Go.Pinned.pow10Rows.flatMap pow2 := by
  unfold powCells
  generalize Go.Pinned.pow10Rows.flatMap pow2 = l
  simp
theorem flat2_len : ∀ l : List (Nat × Nat), (l.flatMap pow2).length = l.length * 2
  | [] => rfl
  | x :: l => by rw [List.flatMap_cons, List.length_append, flat2_len l]; simp [pow2]; omega
theorem flat2 : ∀ (l : List (Nat × Nat)) (i : Nat) (x : Nat × Nat), l[i]? = some x → ((l.flatMap pow2).drop (i * 2)).take 2 = pow2 x
  | [], i, x, h => by simp at h
  | y :: t, 0, x, h => by
    simp at h
    subst h
    simp [pow2]
  | y :: t, i + 1, x, h => by
    simp at h
    have h2 := flat2 t i x h
    have : (i + 1) * 2 = i * 2 + 1 + 1 := by omega
    rw [this, List.flatMap_cons]
    simp only [pow2, List.cons_append, List.nil_append, List.drop_succ_cons]
    exact h2
theorem Tryz.cellsPow : Tryz.prog.cellsOf 196 = 1392 := by kernel_rfl
theorem Tryz.cellsHiLo : Tryz.prog.cellsOf 195 = 2 := by kernel_rfl
theorem Tryz.cellsU64 : Tryz.prog.cellsOf 123 = 1 := by kernel_rfl
theorem powRow_reads (x : Nat × Nat) (hw : powWf x = true) (w : World) (fuel : Nat) :
    DataW.trod (fun _ => ()) Tryz.prog w 0 (fun _ => true) false (fuel + 2) 195 (pow2 x) = some (powD x, []) := by
  simp only [powWf, Bool.and_eq_true] at hw
  simp [DataW.trod, Tryz.underlying195, Tryz.underlying123, Tryz.cellsHiLo, Tryz.cellsU64, pow2, powD, hw.1, hw.2]
theorem pow_reads (w : World) : DataW.trod (fun _ => ()) Tryz.prog w 0 (fun _ => true) false 3 196 powCells.toList = some (Rows.laid_internal_strconv_pow10Tab, []) := by
  have hl : powCells.toList.length = 1392 := by rw [pow_list, flat2_len, pow_len]
  have hd : Rows.laid_internal_strconv_pow10Tab = .agg (Go.Pinned.pow10Rows.map powD) := rfl
  have hm : ((List.range 696).mapM fun i => DataW.trod (fun _ => ()) Tryz.prog w 0 (fun _ => true) false 2 195 ((powCells.toList.drop (i * 2)).take 2)) =
      some ((List.range 696).map fun i => (powD (Go.Pinned.pow10Rows.getD i (0, 0)), ([] : List MemPlace))) := by
    refine Go.Lib.mapM_some _ _ _ fun i hi => ?_
    have hi' : i < Go.Pinned.pow10Rows.length := by rw [pow_len]; simpa using hi
    have hx : Go.Pinned.pow10Rows[i]? = some (Go.Pinned.pow10Rows.getD i (0, 0)) := by
      rw [List.getD_eq_getElem?_getD, List.getElem?_eq_getElem hi']; rfl
    rw [pow_list, flat2 _ _ _ hx]
    refine powRow_reads _ ?_ w 0
    have := List.all_eq_true.1 pow_wf
    rw [List.getD_eq_getElem?_getD, List.getElem?_eq_getElem hi']
    exact this _ (List.getElem_mem hi')
  have hmap : ((List.range 696).map fun i => powD (Go.Pinned.pow10Rows.getD i (0, 0))) = Go.Pinned.pow10Rows.map powD := by
    apply List.ext_getElem?
    intro i
    by_cases hi : i < Go.Pinned.pow10Rows.length
    · have hi2 : i < 696 := by rw [← pow_len]; exact hi
      simp [hi, hi2]
    · have hi2 : ¬ i < 696 := by rw [← pow_len]; exact hi
      rw [List.getElem?_eq_none (by simp; omega), List.getElem?_eq_none (by simp; omega)]
  generalize powCells.toList = cs at *
  unfold DataW.trod
  simp only [Tryz.underlying196, Tryz.cellsPow, Tryz.cellsHiLo, hl, if_true, hm, Option.map_some, List.map_map, Function.comp_def, hmap, hd]
  simp
theorem pow_heap (os : Os) (args : Array Value) : (((laidWorld os).forCall (fun _ _ => 0) ⟨#[], args, []⟩).memory).heap[10]? = some (.cells powCells 196 (0, 0)) := by kernel_rfl
theorem pow_int (j : Nat) (u : TypeId) (v : Value) : powCells[j]? ≠ some (.iface u v) := by
  intro h
  have h2 : powCells.toList[j]? = some (.iface u v) := by rw [← h]; simp
  have hm := List.mem_of_getElem? h2
  rw [pow_list] at hm
  obtain ⟨x, _, hx⟩ := List.mem_flatMap.1 hm
  simp [pow2] at hx
theorem no_iface {w : World} {g : Nat} {cs : Array Value} {T : TypeId} (hh : w.heap[g]? = some (.cells cs T (0, 0))) (hn : ∀ (j : Nat) (u : TypeId) (v : Value), cs[j]? ≠ some (.iface u v)) (off : Nat) (u : TypeId) (v : Value) : w.cell? ⟨g, off, none⟩ ≠ some (.iface u v) := by
  intro h
  rw [Go.Lib.cell_of_heap hh] at h
  exact hn _ _ _ h
set_option maxRecDepth 100000 in
theorem piece2 (os : Os) (args : Array Value) : LaidIn Tryz.prog ((laidWorld os).forCall (fun _ _ => 0) ⟨#[], args, []⟩).memory [("internal/strconv.pow10Tab", Rows.laid_internal_strconv_pow10Tab)] [10] := by
  have hh := pow_heap os args
  have hg : Tryz.prog.globalNamed "internal/strconv.pow10Tab" = some 10 := by kernel_rfl
  refine LaidIn.one (g := 10) (t := 196) (cs := powCells) (fuel := 3) (p := []) [10] hg (by kernel_rfl) ?_ (pow_reads _) ?_ ?_ ?_
  · unfold World.var?
    rw [hg]
    simp only [Option.bind_some, hh]
  · rw [List.append_nil]; exact rowP_nodup _ _
  · rw [List.append_nil]
    intro b off hp
    obtain ⟨i, _, e⟩ := MemPlace.mem_row.1 hp
    injection e with e1 e2
    subst e1
    refine ⟨⟨_, _, hh⟩, fun u v hc => ?_⟩
    exact (no_iface hh pow_int off u v hc).elim
  · rw [List.append_nil]
    intro x hx
    obtain ⟨i, _, rfl⟩ := MemPlace.mem_row.1 hx
    exact List.mem_singleton.2 rfl
/-- What the row asks of the tables. -/
theorem laid_joined (os : Os) (args : Array Value) : laidMet Tryz.prog [("math/bits.deBruijn32tab", Rows.laid_math_bits_deBruijn32tab), ("math/bits.deBruijn64tab", Rows.laid_math_bits_deBruijn64tab), ("internal/strconv.float32info", Rows.laid_internal_strconv_float32info), ("internal/strconv.float64info", Rows.laid_internal_strconv_float64info), ("internal/strconv.optimize", Rows.laid_internal_strconv_optimize), ("internal/strconv.powtab", Rows.laid_internal_strconv_powtab), ("internal/strconv.float64pow10", Rows.laid_internal_strconv_float64pow10), ("internal/strconv.float32pow10", Rows.laid_internal_strconv_float32pow10), ("internal/strconv.uint64pow10", Rows.laid_internal_strconv_uint64pow10), ("strconv.ErrRange", Rows.laid_strconv_ErrRange), ("strconv.ErrSyntax", Rows.laid_strconv_ErrSyntax), ("internal/strconv.leftcheats", Rows.laid_internal_strconv_leftcheats), ("internal/strconv.pow10Tab", Rows.laid_internal_strconv_pow10Tab)] ((laidWorld os).forCall (fun _ _ => 0) ⟨#[], args, []⟩).memory :=
  (((((((((piece0 os args).append (pieceA os args) (by kernel_rfl)).append (pieceB os args) (by kernel_rfl)).append (pieceC os args) (by kernel_rfl)).append (pieceD os args) (by kernel_rfl)).append (pieceE os args) (by kernel_rfl)).append (pieceF os args) (by kernel_rfl)).append (piece1 os args) (by kernel_rfl)).append (piece2 os args) (by kernel_rfl)).met
end Go.Proofs.YtlhonpmpchkkfaaGreatDoor
