import Derived.Test.YtcmpfcijockmhaaGreatDoorS30
import Derived.Test.YtcmpfcijockmhaaGreatDoorSN
set_option linter.unusedSimpArgs false
set_option linter.unusedVariables false
namespace Go.Proofs.YtcmpfcijockmhaaGreatDoor
open Go.RowKit
open Fl
open Ieee (double)
/-- Where a walk along a list stands: at element i, or behind the last one. -/
def ptrAt (bs : List Nat) (i : Nat) : Value := match bs[i]? with
  | some b => .pointer (some ⟨b, 0, none⟩)
  | none => .pointer none
theorem Next_any (w : World) (p i : Nat) (bs : List Nat) (vs : List Value) (hL : LS w p bs vs) (hi : i < bs.length) :
    Calls Tryz.prog 61 #[.pointer (some ⟨bs[i], 0, none⟩)] w fun e w' => e = .returned (ptrAt bs (i + 1)) ∧ w = w' := by
  have hv : i < vs.length := by rw [← hL.len]; exact hi
  obtain ⟨h0, h2, _⟩ := hL.el i _ _ (List.getElem?_eq_getElem hi) (List.getElem?_eq_getElem hv)
  by_cases h1 : i + 1 < bs.length
  · rw [List.getD_eq_getElem?_getD, List.getElem?_eq_getElem h1] at h0
    have hp := (hL.hb _ (List.getElem_mem h1)).1
    have he : ptrAt bs (i + 1) = .pointer (some ⟨bs[i + 1], 0, none⟩) := by unfold ptrAt; rw [List.getElem?_eq_getElem h1]
    rw [he]
    exact Next_more w p _ _ h0 h2 hp (hL.rows _ (.inr (List.getElem_mem h1))) (hL.rows _ (.inl rfl))
  · rw [List.getD_eq_getElem?_getD, List.getElem?_eq_none (by omega)] at h0
    have he : ptrAt bs (i + 1) = .pointer none := by unfold ptrAt; rw [List.getElem?_eq_none (by omega)]
    rw [he]
    exact Next_last w p _ h0 h2
set_option maxRecDepth 100000 in
set_option maxHeartbeats 1000000 in
theorem ToList_text (s : ByteArray) (w : World) :
    Calls Tryz.prog 140 #[fa 2 0 s mt] w fun e w' => ∃ g, e = .returned (.slice (some ⟨g, 0, none⟩) 1 1) ∧ w.heap.size ≤ g ∧ g < w'.heap.size ∧ Fr w w' ∧
      w'.cell? ⟨g, 0, none⟩ = some (.string mt) ∧ w'.cell? ⟨g, 1, none⟩ = some (.float .f64 0) ∧ w'.cell? ⟨g, 2, none⟩ = some (.string s) ∧ w'.cell? ⟨g, 3, none⟩ = some (.slice none 0 0) ∧ w'.cell? ⟨g, 4, none⟩ = some (.slice none 0 0) ∧
      w'.cell? ⟨g, 5, none⟩ = some (.bool false) ∧ w'.cell? ⟨g, 6, none⟩ = some (.string mt) ∧ w'.cell? ⟨g, 7, none⟩ = some (.int .u8 2) ∧ w'.cell? ⟨g, 8, none⟩ = some (.pointer none) ∧ w'.cell? ⟨g, 9, none⟩ = some (.pointer none) := by
  unfold fa
  go_enter Tryz.func140, Tryz.ntmps140
  go_wp2
  go_ret
  refine ⟨_, rfl, by simp, by simp, (by repeat (first | (with_reducible exact Fr.refl _) | ((with_reducible refine Fr.set ?_ ?_ _); focus (simp; done)) | (with_reducible refine Fr.alloc ?_ _) | (with_reducible refine Fr.drew ?_) | (with_reducible refine Fr.step ?_ (by assumption)))), ?_⟩
  simp [go_sem]
end Go.Proofs.YtcmpfcijockmhaaGreatDoor
