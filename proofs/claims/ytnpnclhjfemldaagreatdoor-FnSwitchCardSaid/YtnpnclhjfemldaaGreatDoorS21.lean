import Derived.Test.YtnpnclhjfemldaaGreatDoorS20
set_option linter.unusedSimpArgs false
set_option linter.unusedVariables false
namespace Go.Proofs.YtnpnclhjfemldaaGreatDoor
open Go.RowKit
open Fl
open Ieee (double)
/-- An argument of the package without lists. -/
def fa (ty : Int) (x : Nat) (s e : ByteArray) : Value :=
  .agg #[.string mt, .float .f64 x, .string s, .slice none 0 0, .slice none 0 0, .bool false, .string e, .int .u8 ty, .pointer none, .pointer none]
set_option maxRecDepth 100000 in
set_option maxHeartbeats 1000000 in
theorem newError_any (s t : ByteArray) (w : World) :
    Calls Tryz.prog 34 #[.string s, .string t] w fun e w' => e = .returned (fa 5 0 s t) ∧ Fr w w' := by
  go_enter Tryz.func34, Tryz.ntmps34
  go_wp2
  exact bodyPost_ret (v := .agg #[.string mt, .float .f64 0, .string s, .slice none 0 0, .slice none 0 0, .bool false, .string t, .int .u8 5, .pointer none, .pointer none]) (by simp [results, Tryz.results34, go_sem, sv, mt, *]) rfl ⟨rfl, (by repeat (first | (with_reducible exact Fr.refl _) | ((with_reducible refine Fr.set ?_ ?_ _); focus (simp; done)) | (with_reducible refine Fr.alloc ?_ _) | (with_reducible refine Fr.drew ?_) | (with_reducible refine Fr.step ?_ (by assumption))))⟩
theorem order_zero {n : Int} (h : n.natAbs < 2 ^ 53) : double.order (fw n) 0 = some (compare n 0) := FI.order (FI.own h) (⟨by decide, false, by decide, fun h => absurd rfl h⟩)
set_option maxRecDepth 100000 in
set_option maxHeartbeats 1000000 in
theorem newNumber_int (n : Int) (w : World) (hn : n.natAbs < 2 ^ 53) :
    Calls Tryz.prog 117 #[.float .f64 (fw n)] w fun e w' => e = .returned (fa 1 (fw n) mt mt) ∧ Fr w w' := by
  have h1 : FloatKind.f64.format.order (fw n) (fw n) = some .eq := not_nan (FI.own hn)
  have h2 : FloatKind.f64.format.order (fw n) 0 = some (compare n 0) := order_zero hn
  by_cases h0 : n = 0
  · subst h0
    have h3 : fw 0 = 0 := by decide
    rw [h3] at *
    go_enter Tryz.func117, Tryz.ntmps117
    go_wp2
    exact bodyPost_ret (v := .agg #[.string mt, .float .f64 0, .string mt, .slice none 0 0, .slice none 0 0, .bool false, .string mt, .int .u8 1, .pointer none, .pointer none]) (by simp [results, Tryz.results117, go_sem, sv, mt, *]) rfl ⟨rfl, (by repeat (first | (with_reducible exact Fr.refl _) | ((with_reducible refine Fr.set ?_ ?_ _); focus (simp; done)) | (with_reducible refine Fr.alloc ?_ _) | (with_reducible refine Fr.drew ?_) | (with_reducible refine Fr.step ?_ (by assumption))))⟩
  · have h3 : (FloatKind.f64.format.order (fw n) 0 == some .eq) = false := by
      rw [h2]; rw [beq_eq_false_iff_ne]; intro h; injection h with h; simp only [compare, compareOfLessAndEq] at h; split at h <;> (try split at h) <;> simp_all
    clear h2 hn
    generalize fw n = x at *
    go_enter Tryz.func117, Tryz.ntmps117
    go_wp2
    exact bodyPost_ret (v := .agg #[.string mt, .float .f64 x, .string mt, .slice none 0 0, .slice none 0 0, .bool false, .string mt, .int .u8 1, .pointer none, .pointer none]) (by simp [results, Tryz.results117, go_sem, sv, mt, *]) rfl ⟨rfl, (by repeat (first | (with_reducible exact Fr.refl _) | ((with_reducible refine Fr.set ?_ ?_ _); focus (simp; done)) | (with_reducible refine Fr.alloc ?_ _) | (with_reducible refine Fr.drew ?_) | (with_reducible refine Fr.step ?_ (by assumption))))⟩
set_option maxRecDepth 100000 in
set_option maxHeartbeats 1000000 in
theorem innerArg_num (n : Int) (w : World) (hn : n.natAbs < 2 ^ 53) :
    Calls Tryz.prog 42 #[iv 1 (fw n) mt] w fun e w' => e = .returned (fa 1 (fw n) mt mt) ∧ Fr w w' := by
  unfold iv
  go_enter Tryz.func42, Tryz.ntmps42
  go_wp2_with fail
  refine (newNumber_int n _ hn).mono ?_
  rintro e w1 ⟨rfl, hf1⟩
  have hlt1 := hf1.size
  simp at hlt1
  obtain ⟨hc1, hz1⟩ := hf1.cells
  simp at hc1 hz1
  have h01 : w.heap.size < w1.heap.size := by omega
  have h03 : w.heap.size + 1 < w1.heap.size := by omega
  unfold fa
  go_wp2
  exact bodyPost_ret (v := .agg #[.string mt, .float .f64 (fw n), .string mt, .slice none 0 0, .slice none 0 0, .bool false, .string mt, .int .u8 1, .pointer none, .pointer none]) (by simp [results, Tryz.results42, go_sem, sv, mt, *]) rfl ⟨rfl, (by repeat (first | (with_reducible exact Fr.refl _) | ((with_reducible refine Fr.set ?_ ?_ _); focus (simp; done)) | (with_reducible refine Fr.alloc ?_ _) | (with_reducible refine Fr.drew ?_) | (with_reducible refine Fr.step ?_ (by assumption))))⟩
end Go.Proofs.YtnpnclhjfemldaaGreatDoor
