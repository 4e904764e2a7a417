/- For every text, PROPER of PROPER of it is PROPER of it, where it is of blank to tilde and of at most 1000 bytes, and the text reads afterwards as before: over the tables and the one error value of the library as the program's text lays them. -/
import Derived.Test.YtollahofgcabpaaGreatDoorCards
import Derived.Test.YtollahofgcabpaaGreatDoorTie
import Derived.Test.YtollahofgcabpaaGreatDoorY2
import Derived.Test.YtollahofgcabpaaGreatDoorQ3
import Derived.Test.YtollahofgcabpaaGreatDoorE3
import Derived.Lib.LaidU8
import Derived.SizedLaws
import Derived.SliceStrings
import Derived.OpenShut
set_option linter.unusedSimpArgs false
set_option linter.unusedVariables false
namespace Go.Proofs.YtollahofgcabpaaGreatDoor
open Go.ChangeShapes Go.WideShapes Go.ChangeAt Go.RowKit
theorem props_data : Rows.laid_unicode_properties = (Lib.tabData .u8 Lib.propertiesTab : DataW Unit) := by kernel_rfl
theorem props_named : Tryz.prog.globalNamed "unicode.properties" = some 0 := by kernel_rfl
theorem props_type : (Tryz.prog.globals[0]?).map (·.type) = some 93 := by kernel_rfl
theorem LT.of_laid {W : World} (h : Lib.VarReads Tryz.prog W "unicode.properties" Rows.laid_unicode_properties) : LT W := by
  obtain ⟨g, t, cs, fuel, p, hg, hty, hvar, hd⟩ := h
  obtain rfl := Option.some.inj (props_named.symm.trans hg)
  obtain rfl := Option.some.inj (props_type.symm.trans hty)
  rw [props_data] at hd
  have hcs := Lib.cells_of_tab Tryz.underlying93 Tryz.underlying5 (by kernel_rfl) (by kernel_rfl) hd
  intro c hc
  have := World.var?_cell hg hvar c
  rw [this, ← Array.getElem?_toList, hcs]
  rw [List.getElem?_map, List.getD_eq_getElem?_getD, List.getElem?_eq_getElem (by rw [Lib.propertiesTab_length]; exact hc)]
  rfl
theorem PQown : ownKnob Tryz.prog.godebug = Option.none := by kernel_rfl
theorem fnProperTwice_f : Tryz.prog.funcNamed "pub-tallysheet/laws.FnProperTwice" = some 3 := by kernel_rfl
theorem fnProperTwice_reads (os : Os) {H : Type} (enc : TypeId × Value → H) :
    (OpenSpec.ofChange Rows.fnProperTwiceSpec).preRow enc Tryz.prog Tryz.f3 Rows.fnProperTwiceRow.domain false Rows.fnProperTwiceRow.laid ((laidWorld os).forCall (fun _ _ => 0) ⟨#[], #[.string ⟨#[]⟩], []⟩).memory #[.string ⟨#[]⟩] := by
  have hw : (DataW.whole enc Tryz.prog ((laidWorld os).forCall (fun _ _ => 0) ⟨#[], #[.string ⟨#[]⟩], []⟩).memory Tryz.f3.params.toList Rows.fnProperTwiceSpec.vars false #[Value.string ⟨#[]⟩].toList 8).map (fun x => (x.1, x.2.1)) =
      some ([.lit (.string [])], []) := by kernel_rfl
  obtain ⟨⟨x1, x2, x3⟩, hx, hx1⟩ := Option.map_eq_some_iff.1 hw
  simp only [Prod.mk.injEq] at hx1
  obtain ⟨rfl, rfl⟩ := hx1
  exact OpenSpec.preRow_of_cond 8 hx (by kernel_rfl) (fun k hk => by cases hk) (by kernel_rfl) (laid_joined os _)
set_option maxRecDepth 100000 in
theorem fnProperTwice_contract (H : Type) (enc : TypeId × Value → H) (W : World) (base : Nat) (args : Array Value) (ds gs : List (DataW H)) (before : List MemPlace)
    (hval : ∀ (j : Nat) t v, Tryz.f3.params[j]? = some t → args[j]? = some v → Value.okWide Tryz.prog W .any base t v)
    (hT : LT W) (hW : DataW.Whole enc Tryz.prog Tryz.f3.params.toList Rows.fnProperTwiceSpec.vars false W args.toList ds gs before) :
    Calls Tryz.prog 3 args W fun e W' => ∃ v, e = .returned v ∧ Rows.fnProperTwiceSpec.post enc Tryz.prog Tryz.f3 false true false false W args v W' := by
  have hW' := hW
  obtain ⟨p, q, hA0, hV, rfl, hfz, hnd⟩ := hW
  have hA : DataW.TrodAll enc Tryz.prog W 0 (fun _ => true) true Tryz.f3.params.toList args.toList ds p := hA0
  rw [Tryz.params3] at hA hval
  obtain ⟨v0, d0, rfl, rfl, h0⟩ := trodAll_one hA
  obtain ⟨rfl, rfl⟩ := trodVars_none hV
  obtain ⟨s, rfl, rfl, rfl, ws⟩ := Go.ChangeMaps.open_string Tryz.underlying9 (hval 0 9 v0 rfl rfl) h0
  clear hA0
  refine (FnProperTwice_calls writesByte tellsBuf s W ws hT).mono fun e W' ⟨he, hg⟩ => ?_
  subst he
  have e1 : Rows.fnProperTwiceSpec.fn H ([.lit (.string s.data.toList)] ++ []) = { results := [.lit (.bool true)], args := [.lit (.string s.data.toList)] } := rfl
  refine ⟨_, rfl, _, _, _, [], [], [], hW', ?_, ?_, ?_, hg.frame _, fun h => by cases h⟩
  · rw [e1]; exact trodAll_mk1 (shut_bool Tryz.underlying4 _)
  · rw [e1]; exact trodAll_mk1 (Go.ChangeMaps.shut_string Tryz.underlying9 ws)
  · rw [e1]; rfl
set_option maxRecDepth 100000 in
theorem fnProperTwice_lifted (os : Os) (started : os.Started) (H : Type) (enc : TypeId × Value → H) (F : Stop.Interp) :
    ReturnsInHanded {} Tryz.checked os 3 .any ((OpenSpec.ofChange Rows.fnProperTwiceSpec).preRow enc Tryz.prog Tryz.f3 Rows.fnProperTwiceRow.domain false Rows.fnProperTwiceRow.laid) (((OpenSpec.ofChange Rows.fnProperTwiceSpec).at F).post enc Tryz.prog Tryz.f3 false true false false) := by
  refine returnsInHanded_of_row (C := Tryz.checked) (s := OpenSpec.ofChange Rows.fnProperTwiceSpec) PQown started (by kernel_rfl) Tryz.func3
    (witness_row_atRef (enc := enc) (C := Tryz.checked) false (laidWorld os) #[.string ⟨#[]⟩] rfl (vars_ok os) (by kernel_rfl) (by kernel_rfl) (fnProperTwice_reads os enc)) ?_
  intro W base args ds gs before hval hW _ _ _ hL _ _
  exact fnProperTwice_contract H enc W base args ds gs before hval (LT.of_laid (Lib.laidMet.reads hL (.tail _ (.tail _ (.tail _ (.tail _ (.head _))))))) hW
theorem fnProperTwice_said : Rows.FnProperTwiceSaid :=
  OpenClaim.holds_of_cond 3 Tryz.f3 rfl rfl rfl rfl rfl rfl rfl ⟨rfl, rfl, rfl, rfl, rfl⟩ rfl rfl rfl rfl rfl (by kernel_rfl) Tryz.func3 (by kernel_rfl)
    (of_decide_eq_true (by kernel_rfl)) (by unfold Func.isWrapper; first | (rw [if_pos (by decide +kernel)]; kernel_rfl) | (rw [if_neg (by decide +kernel)]; exact ⟨rfl, rfl⟩))
    (fun os started H enc _ F => by rw [OpenClaim.pre_eq_preRow]; exact fnProperTwice_lifted os started H enc F)
theorem fnProperTwice_plain (f : FuncId) (fn : Func) (hf : Tryz.pinned.checked.prog.funcNamed "pub-tallysheet/laws.FnProperTwice" = some f) (hfn : Tryz.pinned.checked.prog.funcs[f]? = some fn) :
    true = Tryz.pinned.checked.prog.looks [] ∧ ∀ (j : Nat) t, fn.params[j]? = some t → Tryz.pinned.checked.prog.wantsStandIn t = false := by
  obtain rfl : f = 3 := Option.some.inj (fnProperTwice_f.symm.trans hf) |>.symm
  obtain rfl : fn = Tryz.f3 := (Option.some.inj (Tryz.func3.symm.trans hfn)).symm
  refine ⟨by kernel_rfl, fun j t ht => ?_⟩
  rw [Tryz.params3] at ht
  obtain rfl : t = 9 := by simpa using Array.mem_of_getElem? ht
  exact (show Tryz.prog.wantsStandIn 9 = false by kernel_rfl)
/-- The card of FnProperTwice. -/
theorem fnProperTwice_card : Rows.FnProperTwiceCardSaid :=
  Claim7.holds_tied_plain_at .later [] _ _ _ _ fnProperTwice_said (fun _ h => by cases h) (by kernel_rfl) (fun _ h => by cases h) fnProperTwice_row_tie rfl ⟨rfl, rfl⟩ (by kernel_rfl) rfl fnProperTwice_plain (by kernel_rfl)
end Go.Proofs.YtollahofgcabpaaGreatDoor
