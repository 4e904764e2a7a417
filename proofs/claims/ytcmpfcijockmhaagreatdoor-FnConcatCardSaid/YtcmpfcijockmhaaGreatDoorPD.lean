/- For every list of texts, CONCAT answers what the reference says of it, where the reference is sure, and the list reads afterwards as before: over the tables and the one error value of the library as the program's text lays them. -/
import Derived.Test.YtcmpfcijockmhaaGreatDoorPC
import Derived.Test.YtcmpfcijockmhaaGreatDoorC3
set_option linter.unusedSimpArgs false
set_option linter.unusedVariables false
namespace Go.Proofs.YtcmpfcijockmhaaGreatDoor
open Go.ChangeShapes Go.WideShapes Go.ChangeAt Go.RowKit
theorem fnConcat_f : Tryz.prog.funcNamed "pub-tallysheet/laws.FnConcat" = some 6 := by kernel_rfl
theorem fnConcat_reads (os : Os) {H : Type} (enc : TypeId × Value → H) :
    (OpenSpec.ofChange Rows.fnConcatSpec).preRow enc Tryz.prog Tryz.f6 Rows.fnConcatRow.domain false Rows.fnConcatRow.laid ((laidWorld os).forCall (fun _ _ => 0) ⟨#[], #[.slice none 0 0], []⟩).memory #[.slice none 0 0] := by
  have hw : (DataW.whole enc Tryz.prog ((laidWorld os).forCall (fun _ _ => 0) ⟨#[], #[.slice none 0 0], []⟩).memory Tryz.f6.params.toList Rows.fnConcatSpec.vars false #[Value.slice none 0 0].toList 8).map (fun x => (x.1, x.2.1)) =
      some ([.nil], []) := by kernel_rfl
  obtain ⟨⟨x1, x2, x3⟩, hx, hx1⟩ := Option.map_eq_some_iff.1 hw
  simp only [Prod.mk.injEq] at hx1
  obtain ⟨rfl, rfl⟩ := hx1
  exact OpenSpec.preRow_of_cond 8 hx (by kernel_rfl) (fun k hk => by cases hk) (by kernel_rfl) (laid_joined os _)
set_option maxRecDepth 100000 in
theorem fnConcat_lifted (os : Os) (started : os.Started) (H : Type) (enc : TypeId × Value → H) (F : Stop.Interp) :
    ReturnsInHanded {} Tryz.checked os 6 .any ((OpenSpec.ofChange Rows.fnConcatSpec).preRow enc Tryz.prog Tryz.f6 Rows.fnConcatRow.domain false Rows.fnConcatRow.laid) (((OpenSpec.ofChange Rows.fnConcatSpec).at F).post enc Tryz.prog Tryz.f6 false true false false) := by
  refine returnsInHanded_of_row (C := Tryz.checked) (s := OpenSpec.ofChange Rows.fnConcatSpec) PCown started (by kernel_rfl) Tryz.func6
    (witness_row_atRef (enc := enc) (C := Tryz.checked) false (laidWorld os) #[.slice none 0 0] rfl (vars_ok os) (by kernel_rfl) (by kernel_rfl) (fnConcat_reads os enc)) ?_
  intro W base args ds gs before hval hW _ _ _ hL _ _
  exact fnConcat_contract writesBuf tellsBuf H enc W base args ds gs before hval hW
theorem fnConcat_said : Rows.FnConcatSaid :=
  OpenClaim.holds_of_cond 6 Tryz.f6 rfl rfl rfl rfl rfl rfl rfl ⟨rfl, rfl, rfl, rfl, rfl⟩ rfl rfl rfl rfl rfl (by kernel_rfl) Tryz.func6 (by kernel_rfl)
    (of_decide_eq_true (by kernel_rfl)) (by unfold Func.isWrapper; first | (rw [if_pos (by decide +kernel)]; kernel_rfl) | (rw [if_neg (by decide +kernel)]; exact ⟨rfl, rfl⟩))
    (fun os started H enc _ F => by rw [OpenClaim.pre_eq_preRow]; exact fnConcat_lifted os started H enc F)
theorem fnConcat_plain (f : FuncId) (fn : Func) (hf : Tryz.pinned.checked.prog.funcNamed "pub-tallysheet/laws.FnConcat" = some f) (hfn : Tryz.pinned.checked.prog.funcs[f]? = some fn) :
    true = Tryz.pinned.checked.prog.looks [] ∧ ∀ (j : Nat) t, fn.params[j]? = some t → Tryz.pinned.checked.prog.wantsStandIn t = false := by
  obtain rfl : f = 6 := Option.some.inj (fnConcat_f.symm.trans hf) |>.symm
  obtain rfl : fn = Tryz.f6 := (Option.some.inj (Tryz.func6.symm.trans hfn)).symm
  refine ⟨by kernel_rfl, fun j t ht => ?_⟩
  rw [Tryz.params6] at ht
  obtain rfl : t = 34 := by simpa using Array.mem_of_getElem? ht
  exact (show Tryz.prog.wantsStandIn 34 = false by kernel_rfl)
/-- The card of FnConcat. -/
theorem fnConcat_card : Rows.FnConcatCardSaid :=
  Claim7.holds_tied_plain_at .later [] _ _ _ _ fnConcat_said (fun _ h => by cases h) (by kernel_rfl) (fun _ h => by cases h) fnConcat_row_tie rfl ⟨rfl, rfl⟩ (by kernel_rfl) rfl fnConcat_plain (by kernel_rfl)
end Go.Proofs.YtcmpfcijockmhaaGreatDoor
