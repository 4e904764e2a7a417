import Derived.Test.YtlhonpmpchkkfaaGreatDoorZ1
set_option linter.unusedSimpArgs false
set_option linter.unusedVariables false
/- The witness' world is formed: the great table by a law, the rest by the kernel's run. -/

namespace Go.Proofs.YtlhonpmpchkkfaaGreatDoor
open Go.ChangeShapes Go.WideShapes Go.ChangeAt Go.RowKit
/-- One variable of the world is formed. -/
noncomputable def varOk (w : World) (g : Nat) : Bool :=
  match ((begin Tryz.prog (fun _ _ => 0) default).world.heap[g]?).bind Obj.row? with
  | none => true
  | some (zero, t) =>
    match w.heap[g]? with
    | some (.cells cs t' frozen) => decide (t' = t) && decide (frozen = (0, 0)) && cs.size == zero.size && (!Tryz.prog.buildable t || Row.okRefB Tryz.prog w t cs)
    | _ => false
theorem vars_of (w : World) (h : ∀ g, g < Tryz.prog.globals.size → varOk w g = true) : w.variablesRefB Tryz.prog = true :=
  List.all_eq_true.2 fun g hg => h g (List.mem_range.1 hg)
theorem pow_types : Tryz.prog.cellTypes Tryz.prog.depth 196 = some (List.replicate 1392 123) := by kernel_rfl
theorem pow_size : powCells.size = 1392 := by
  have : powCells.size = powCells.toList.length := by simp
  rw [this, pow_list, flat2_len, pow_len]
theorem pow_cell (j : Nat) (v : Value) (h : powCells[j]? = some v) : ∃ n : Nat, v = .int .u64 n ∧ (Lit.int .u64 n).wf = true := by
  have h2 : powCells.toList[j]? = some v := by rw [← h]; simp
  have hm := List.mem_of_getElem? h2
  rw [pow_list] at hm
  obtain ⟨x, hx, hv⟩ := List.mem_flatMap.1 hm
  have hw := List.all_eq_true.1 pow_wf x hx
  simp only [powWf, Bool.and_eq_true] at hw
  simp only [pow2, List.mem_cons, List.mem_nil_iff, or_false] at hv
  rcases hv with rfl | rfl
  · exact ⟨_, rfl, hw.1⟩
  · exact ⟨_, rfl, hw.2⟩
set_option maxRecDepth 100000 in
theorem pow_okRef (w : World) : Row.okRefB Tryz.prog w 196 powCells = true := by
  unfold Row.okRefB
  rw [pow_types]
  simp only [pow_size, List.length_replicate, Nat.mod_self, beq_self_eq_true, Bool.true_and]
  refine List.all_eq_true.2 fun i hi => ?_
  have hi' : i < 1392 := List.mem_range.1 hi
  have hp : i < powCells.size := by rw [pow_size]; exact hi'
  obtain ⟨n, hv, hw⟩ := pow_cell i _ (Array.getElem?_eq_getElem hp)
  rw [Array.getElem?_eq_getElem hp, hv, Nat.mod_eq_of_lt hi', List.getElem?_replicate, if_pos hi']
  simp only [Cell.okRefB, Cell.okB, Tryz.underlying123]
  simp only [Lit.wf, Bool.and_eq_true, decide_eq_true_eq] at hw
  simp only [decide_true, Bool.true_and, Bool.and_eq_true, decide_eq_true_eq]
  exact hw
theorem pow_zero : (((begin Tryz.prog (fun _ _ => 0) default).world.heap[10]?).bind Obj.row?).map (fun x => (x.1.size, x.2)) = some (1392, 196) := by kernel_rfl
theorem pow_heap2 (os : Os) (args : Array Value) : ((laidWorld os).forCall (fun _ _ => 0) ⟨#[], args, []⟩).heap[10]? = some (.cells powCells 196 (0, 0)) := by kernel_rfl
set_option maxRecDepth 100000 in
theorem pow_varOk (w : World) (h : w.heap[10]? = some (.cells powCells 196 (0, 0))) : varOk w 10 = true := by
  obtain ⟨⟨zero, t⟩, hz, he⟩ := Option.map_eq_some_iff.1 pow_zero
  simp only [Prod.mk.injEq] at he
  obtain ⟨hs, rfl⟩ := he
  unfold varOk
  simp only [hz, h, hs, pow_size, pow_okRef, Bool.or_true, decide_true, beq_self_eq_true, Bool.and_self]
theorem n_globals : Tryz.prog.globals.size = 21 := by kernel_rfl
theorem v0_ok (os : Os) : varOk ((laidWorld os).forCall (fun _ _ => 0) ⟨#[], #[.slice none 0 0, .slice none 0 0], []⟩) 0 = true := by kernel_rfl
theorem v1_ok (os : Os) : varOk ((laidWorld os).forCall (fun _ _ => 0) ⟨#[], #[.slice none 0 0, .slice none 0 0], []⟩) 1 = true := by kernel_rfl
theorem v2_ok (os : Os) : varOk ((laidWorld os).forCall (fun _ _ => 0) ⟨#[], #[.slice none 0 0, .slice none 0 0], []⟩) 2 = true := by kernel_rfl
theorem v3_ok (os : Os) : varOk ((laidWorld os).forCall (fun _ _ => 0) ⟨#[], #[.slice none 0 0, .slice none 0 0], []⟩) 3 = true := by kernel_rfl
theorem v4_ok (os : Os) : varOk ((laidWorld os).forCall (fun _ _ => 0) ⟨#[], #[.slice none 0 0, .slice none 0 0], []⟩) 4 = true := by kernel_rfl
theorem v5_ok (os : Os) : varOk ((laidWorld os).forCall (fun _ _ => 0) ⟨#[], #[.slice none 0 0, .slice none 0 0], []⟩) 5 = true := by kernel_rfl
theorem v6_ok (os : Os) : varOk ((laidWorld os).forCall (fun _ _ => 0) ⟨#[], #[.slice none 0 0, .slice none 0 0], []⟩) 6 = true := by kernel_rfl
theorem v7_ok (os : Os) : varOk ((laidWorld os).forCall (fun _ _ => 0) ⟨#[], #[.slice none 0 0, .slice none 0 0], []⟩) 7 = true := by kernel_rfl
theorem v8_ok (os : Os) : varOk ((laidWorld os).forCall (fun _ _ => 0) ⟨#[], #[.slice none 0 0, .slice none 0 0], []⟩) 8 = true := by kernel_rfl
theorem v9_ok (os : Os) : varOk ((laidWorld os).forCall (fun _ _ => 0) ⟨#[], #[.slice none 0 0, .slice none 0 0], []⟩) 9 = true := by kernel_rfl
theorem v11_ok (os : Os) : varOk ((laidWorld os).forCall (fun _ _ => 0) ⟨#[], #[.slice none 0 0, .slice none 0 0], []⟩) 11 = true := by kernel_rfl
theorem v12_ok (os : Os) : varOk ((laidWorld os).forCall (fun _ _ => 0) ⟨#[], #[.slice none 0 0, .slice none 0 0], []⟩) 12 = true := by kernel_rfl
theorem v13_ok (os : Os) : varOk ((laidWorld os).forCall (fun _ _ => 0) ⟨#[], #[.slice none 0 0, .slice none 0 0], []⟩) 13 = true := by kernel_rfl
theorem v14_ok (os : Os) : varOk ((laidWorld os).forCall (fun _ _ => 0) ⟨#[], #[.slice none 0 0, .slice none 0 0], []⟩) 14 = true := by kernel_rfl
theorem v15_ok (os : Os) : varOk ((laidWorld os).forCall (fun _ _ => 0) ⟨#[], #[.slice none 0 0, .slice none 0 0], []⟩) 15 = true := by kernel_rfl
theorem v16_ok (os : Os) : varOk ((laidWorld os).forCall (fun _ _ => 0) ⟨#[], #[.slice none 0 0, .slice none 0 0], []⟩) 16 = true := by kernel_rfl
theorem v17_ok (os : Os) : varOk ((laidWorld os).forCall (fun _ _ => 0) ⟨#[], #[.slice none 0 0, .slice none 0 0], []⟩) 17 = true := by kernel_rfl
theorem v18_ok (os : Os) : varOk ((laidWorld os).forCall (fun _ _ => 0) ⟨#[], #[.slice none 0 0, .slice none 0 0], []⟩) 18 = true := by kernel_rfl
theorem v19_ok (os : Os) : varOk ((laidWorld os).forCall (fun _ _ => 0) ⟨#[], #[.slice none 0 0, .slice none 0 0], []⟩) 19 = true := by kernel_rfl
theorem v20_ok (os : Os) : varOk ((laidWorld os).forCall (fun _ _ => 0) ⟨#[], #[.slice none 0 0, .slice none 0 0], []⟩) 20 = true := by kernel_rfl
set_option maxRecDepth 100000 in
theorem vars_ok (os : Os) : ((laidWorld os).forCall (fun _ _ => 0) ⟨#[], #[.slice none 0 0, .slice none 0 0], []⟩).variablesRefB Tryz.prog = true := by
  refine vars_of _ fun g hg => ?_
  rw [n_globals] at hg
  have hc : g = 0 ∨ g = 1 ∨ g = 2 ∨ g = 3 ∨ g = 4 ∨ g = 5 ∨ g = 6 ∨ g = 7 ∨ g = 8 ∨ g = 9 ∨ g = 10 ∨ g = 11 ∨ g = 12 ∨ g = 13 ∨ g = 14 ∨ g = 15 ∨ g = 16 ∨ g = 17 ∨ g = 18 ∨ g = 19 ∨ g = 20 := by omega
  rcases hc with rfl | rfl | rfl | rfl | rfl | rfl | rfl | rfl | rfl | rfl | rfl | rfl | rfl | rfl | rfl | rfl | rfl | rfl | rfl | rfl | rfl
  · exact v0_ok os
  · exact v1_ok os
  · exact v2_ok os
  · exact v3_ok os
  · exact v4_ok os
  · exact v5_ok os
  · exact v6_ok os
  · exact v7_ok os
  · exact v8_ok os
  · exact v9_ok os
  · exact pow_varOk _ (pow_heap2 os _)
  · exact v11_ok os
  · exact v12_ok os
  · exact v13_ok os
  · exact v14_ok os
  · exact v15_ok os
  · exact v16_ok os
  · exact v17_ok os
  · exact v18_ok os
  · exact v19_ok os
  · exact v20_ok os
end Go.Proofs.YtlhonpmpchkkfaaGreatDoor
