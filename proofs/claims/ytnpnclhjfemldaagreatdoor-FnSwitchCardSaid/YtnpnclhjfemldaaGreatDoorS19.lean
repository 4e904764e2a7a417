import Derived.Test.YtnpnclhjfemldaaGreatDoorA2
import Derived.Test.YtnpnclhjfemldaaGreatDoorF0
set_option linter.unusedSimpArgs false
set_option linter.unusedVariables false
namespace Go.Proofs.YtnpnclhjfemldaaGreatDoor
open Go.RowKit
open Fl
open Ieee (double)
@[go_sem] theorem run_store_float (P : Program) (w : World) (a : Addr) (m : Mode) (k : FloatKind) (x : Nat) : (store a (.float k x) m).run P w = stored P w a (.float k x) m := run_store P w a _ m rfl
/-- A value of the program without rows. -/
def iv (k : Int) (x : Nat) (s : ByteArray) : Value := .agg #[.int .i64 k, .float .f64 x, .string s, .slice none 0 0]
set_option maxRecDepth 100000 in
set_option maxHeartbeats 1000000 in
theorem of_err (s : ByteArray) (w : World) :
    Calls Tryz.prog 19 #[sv 4 0 0 s] w fun e w' => e = .returned (iv 4 0 s) ∧ Fr w w' := by
  unfold sv
  go_enter Tryz.func19, Tryz.ntmps19
  go_wp2
  exact bodyPost_ret (v := .agg #[.int .i64 4, .float .f64 0, .string s, .slice none 0 0]) (by simp [results, Tryz.results19, go_sem, sv, mt, *]) rfl ⟨rfl, (by repeat (first | (with_reducible exact Fr.refl _) | ((with_reducible refine Fr.set ?_ ?_ _); focus (simp; done)) | (with_reducible refine Fr.alloc ?_ _) | (with_reducible refine Fr.drew ?_) | (with_reducible refine Fr.step ?_ (by assumption))))⟩
set_option maxRecDepth 100000 in
set_option maxHeartbeats 1000000 in
theorem of_num (n : Int) (w : World) (hn : n.natAbs < 2 ^ 53) :
    Calls Tryz.prog 19 #[sv 1 n 1 mt] w fun e w' => e = .returned (iv 1 (fw n) mt) ∧ Fr w w' := by
  have h1 : floatOfInt .f64 n = fw n := floatOfInt_fw n hn
  have h2 : floatOfInt .f64 1 = fw 1 := floatOfInt_fw 1 (by decide)
  have h3 : ∀ w, (binOp .quo 35 (.float .f64 (fw n)) (.float .f64 (fw 1))).run Tryz.prog w = .ok (.float .f64 (fw n)) w := fun w => run_float_arith w .quo 35 .f64 _ _ _ (show floatBits .quo .f64 _ _ = some _ from FI.div_one hn)
  clear hn
  unfold sv
  go_enter Tryz.func19, Tryz.ntmps19
  go_wp2
  exact bodyPost_ret (v := .agg #[.int .i64 1, .float .f64 (fw n), .string mt, .slice none 0 0]) (by simp [results, Tryz.results19, go_sem, sv, mt, *]) rfl ⟨rfl, (by repeat (first | (with_reducible exact Fr.refl _) | ((with_reducible refine Fr.set ?_ ?_ _); focus (simp; done)) | (with_reducible refine Fr.alloc ?_ _) | (with_reducible refine Fr.drew ?_) | (with_reducible refine Fr.step ?_ (by assumption))))⟩
theorem zero_num : double.order 0 0 = some .eq := not_nan (n := 0) (x := 0) ⟨by decide, false, by decide, fun h => absurd rfl h⟩
set_option maxRecDepth 100000 in
set_option maxHeartbeats 1000000 in
theorem same_of (k : Int) (x : Nat) (t : ByteArray) (v : Value) (w : World) (hx : double.order x x = some .eq) (hcell : ∃ a b c d, v = sv a b c d)
    (hof : ∀ w, Calls Tryz.prog 19 #[v] w fun e w' => e = .returned (iv k x t) ∧ Fr w w') :
    Calls Tryz.prog 11 #[iv k x t, v] w fun e w' => e = .returned (.bool true) ∧ Fr w w' := by
  obtain ⟨a, b, c, d, rfl⟩ := hcell
  have h1 : FloatKind.f64.format.order x x = some .eq := hx
  have Hof := Lib.hid hof; clear hof hx
  unfold sv iv at *
  go_enter Tryz.func11, Tryz.ntmps11
  go_wp2_with fail
  refine (Hof.out _).mono ?_
  rintro e w1 ⟨rfl, hf1⟩
  have hlt1 := hf1.size
  simp at hlt1
  obtain ⟨hc1, hz1⟩ := hf1.cells
  simp at hc1 hz1
  have h01 : w.heap.size < w1.heap.size := by omega
  have h02 : w.heap.size < w1.heap.size + 1 := by omega
  have h03 : w.heap.size + 1 < w1.heap.size := by omega
  have h04 : w.heap.size + 1 < w1.heap.size + 1 := by omega
  go_wp2
  go_loop [6] (fun i => i = .int .i64 0) (fun i => 0)
  case atStart => rfl
  case round =>
    subst hrel
    go_wp2
    go_ret
    exact ⟨rfl, (by repeat (first | (with_reducible exact Fr.refl _) | ((with_reducible refine Fr.set ?_ ?_ _); focus (simp; done)) | (with_reducible refine Fr.alloc ?_ _) | (with_reducible refine Fr.drew ?_) | (with_reducible refine Fr.step ?_ (by assumption))))⟩
end Go.Proofs.YtnpnclhjfemldaaGreatDoor
