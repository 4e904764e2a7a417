/- FnConcat's contract in the row's words, up to the two contracts on the library's buffer (premises here: to be closed by the shelf's text). -/
import Derived.Test.YtcmpfcijockmhaaGreatDoorCards
import Derived.Test.YtcmpfcijockmhaaGreatDoorTie
import Derived.Test.YtcmpfcijockmhaaGreatDoorC2
import Derived.Test.YtcmpfcijockmhaaGreatDoorS36
import Derived.SizedLaws
import Derived.SliceStrings
import Derived.OpenShut
set_option linter.unusedSimpArgs false
set_option linter.unusedVariables false
namespace Go.Proofs.YtcmpfcijockmhaaGreatDoor
open Go.ChangeShapes Go.WideShapes Go.ChangeAt Go.RowKit
theorem PCown : ownKnob Tryz.prog.godebug = Option.none := by kernel_rfl
theorem PClaid : laidOutB Tryz.prog = true := by kernel_rfl
theorem PCcells : Tryz.prog.cellsOf 9 = 1 := by kernel_rfl
set_option maxRecDepth 100000 in
theorem fnConcat_contract (hWb : WritesBuf) (hSb : TellsBuf) (H : Type) (enc : TypeId × Value → H) (W : World) (base : Nat) (args : Array Value) (ds gs : List (DataW H)) (before : List MemPlace)
    (hval : ∀ (j : Nat) t v, Tryz.f6.params[j]? = some t → args[j]? = some v → Value.okWide Tryz.prog W .any base t v)
    (hW : DataW.Whole enc Tryz.prog Tryz.f6.params.toList Rows.fnConcatSpec.vars false W args.toList ds gs before) :
    Calls Tryz.prog 6 args W fun e W' => ∃ v, e = .returned v ∧ Rows.fnConcatSpec.post enc Tryz.prog Tryz.f6 false true false false W args v W' := by
  have hW' := hW
  obtain ⟨p, q, hA0, hV, rfl, _, _⟩ := hW
  have hA : DataW.TrodAll enc Tryz.prog W 0 (fun _ => true) true Tryz.f6.params.toList args.toList ds p := hA0
  rw [Tryz.params6] at hA hval
  obtain ⟨v0, d0, rfl, rfl, h0⟩ := trodAll_one hA
  obtain ⟨rfl, rfl⟩ := trodVars_none hV
  obtain ⟨a0, len, cap, rfl⟩ := okWide_slice Tryz.underlying34 (hval 0 34 v0 rfl rfl)
  have h0k := h0
  obtain ⟨fuel, hf⟩ := h0
  clear hA0
  simp only [List.append_nil] at hW'
  have hlt : ∀ x ∈ p, x.block < W.heap.size := fun x hx => by simpa using hW'.lt x hx
  have hargs : ∀ (W' : World), Below W.heap.size W W' → DataW.Trod enc Tryz.prog W' 0 (fun b => decide (b < W.heap.size)) true 34 (.slice a0 len cap) d0 p :=
    fun W' hn => Below.trod PClaid (by kernel_rfl) (of_decide_eq_true (by kernel_rfl)) h0k hn hlt
  have fin : ∀ e W', (e = Ending.returned (.bool true) ∧ Fr W W') → ∃ v, e = .returned v ∧ Rows.fnConcatSpec.post enc Tryz.prog Tryz.f6 false true false false W #[.slice a0 len cap] v W' := by
    intro e W' ⟨he, hnx⟩
    subst he
    have e1 : Rows.fnConcatSpec.fn H ([d0] ++ []) = { results := [.lit (.bool true)], args := [d0] } := rfl
    refine ⟨_, rfl, _, _, _, [], p, [], hW', ?_, ?_, ?_, hnx.frame _, fun h => by cases h⟩
    · rw [e1]; exact trodAll_mk1 (shut_bool Tryz.underlying4 _)
    · rw [e1]; exact trodAll_mk1 (hargs _ hnx)
    · rw [e1]; rfl
  rcases open_strings Tryz.underlying34 Tryz.underlying9 PCcells hf with ⟨hcs, hx⟩ | ⟨a, len', cap', ss, hcs, _, hl, hm, hz, hx, hcell, hws⟩
  · simp [Value.cells] at hcs
    obtain ⟨rfl, rfl, rfl⟩ := hcs
    exact (FnConcat_calls hWb hSb Option.none 0 [] W (fun h => absurd h (by simp)) (by simp)).mono fin
  · simp [Value.cells] at hcs
    obtain ⟨rfl, rfl, rfl⟩ := hcs
    simp only [if_true] at hz
    have hlen : (ss.take len).length = len := by rw [List.length_take]; omega
    have hT : TA W (some a) (ss.take len) := by
      intro hn
      rw [hlen] at hn
      obtain ⟨b, off, spot⟩ := a
      have hspot : spot = Option.none := by simpa [Addr.add] using World.cell?_spot (hcell 0 (by omega))
      subst hspot
      simp only [Prod.mk.injEq] at hx
      have hbW : b < W.heap.size := hlt (.cell b off) (by rw [hx.2]; exact MemPlace.mem_row.2 ⟨0, by omega, by simp⟩)
      refine ⟨b, off, rfl, hbW, fun i x hi => ?_⟩
      have hi2 : i < len := by have := (List.getElem?_eq_some_iff.1 hi).1; rwa [hlen] at this
      have hc := hcell i (by omega)
      rw [add_plain] at hc
      rw [hc]
      rw [List.getElem?_take, if_pos hi2] at hi
      rw [List.getD_eq_getElem?_getD, hi]; rfl
    have h := FnConcat_calls hWb hSb (some a) cap (ss.take len) W hT (by rw [hlen]; unfold maxLen at hm; omega)
    rw [hlen] at h
    exact h.mono fin
end Go.Proofs.YtcmpfcijockmhaaGreatDoor
