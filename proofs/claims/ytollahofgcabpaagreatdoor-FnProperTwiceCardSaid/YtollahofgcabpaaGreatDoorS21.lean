import Derived.Test.YtollahofgcabpaaGreatDoorS20
set_option linter.unusedSimpArgs false
set_option linter.unusedVariables false
namespace Go.Proofs.YtollahofgcabpaaGreatDoor
open Go.RowKit
open Fl
open Ieee (double)
/-- An argument of the package without lists. -/
def fa (ty : Int) (x : Nat) (s e : ByteArray) : Value :=
  .agg #[.string mt, .float .f64 x, .string s, .slice none 0 0, .slice none 0 0, .bool false, .string e, .int .u8 ty, .pointer none, .pointer none]
set_option maxRecDepth 100000 in
set_option maxHeartbeats 1000000 in
theorem newString_any (s : ByteArray) (w : World) :
    Calls Tryz.prog 32 #[.string s] w fun e w' => e = .returned (fa 2 0 s mt) ∧ Fr w w' := by
  go_enter Tryz.func32, Tryz.ntmps32
  go_wp2
  exact bodyPost_ret (v := .agg #[.string mt, .float .f64 0, .string s, .slice none 0 0, .slice none 0 0, .bool false, .string mt, .int .u8 2, .pointer none, .pointer none]) (by simp [results, Tryz.results32, go_sem, sv, mt, *]) rfl ⟨rfl, (by repeat (first | (with_reducible exact Fr.refl _) | ((with_reducible refine Fr.set ?_ ?_ _); focus (simp; done)) | (with_reducible refine Fr.alloc ?_ _) | (with_reducible refine Fr.drew ?_) | (with_reducible refine Fr.step ?_ (by assumption))))⟩
set_option maxRecDepth 100000 in
set_option maxHeartbeats 1000000 in
theorem innerArg_text (s : ByteArray) (w : World) :
    Calls Tryz.prog 36 #[iv 2 0 s] w fun e w' => e = .returned (fa 2 0 s mt) ∧ Fr w w' := by
  unfold iv
  go_enter Tryz.func36, Tryz.ntmps36
  go_wp2_with fail
  refine (newString_any s _).mono ?_
  rintro e w1 ⟨rfl, hf1⟩
  have hlt1 := hf1.size
  simp at hlt1
  obtain ⟨hc1, hz1⟩ := hf1.cells
  simp at hc1 hz1
  have h01 : w.heap.size < w1.heap.size := by omega
  have h03 : w.heap.size + 1 < w1.heap.size := by omega
  unfold fa
  go_wp2
  exact bodyPost_ret (v := .agg #[.string mt, .float .f64 0, .string s, .slice none 0 0, .slice none 0 0, .bool false, .string mt, .int .u8 2, .pointer none, .pointer none]) (by simp [results, Tryz.results36, go_sem, sv, mt, *]) rfl ⟨rfl, (by repeat (first | (with_reducible exact Fr.refl _) | ((with_reducible refine Fr.set ?_ ?_ _); focus (simp; done)) | (with_reducible refine Fr.alloc ?_ _) | (with_reducible refine Fr.drew ?_) | (with_reducible refine Fr.step ?_ (by assumption))))⟩
end Go.Proofs.YtollahofgcabpaaGreatDoor
