import Derived.Test.YtollahofgcabpaaGreatDoorS18
import Derived.Test.YtollahofgcabpaaGreatDoorF0
set_option linter.unusedSimpArgs false
set_option linter.unusedVariables false
namespace Go.Proofs.YtollahofgcabpaaGreatDoor
open Go.RowKit
open Fl
open Ieee (double)
@[go_sem] theorem run_store_float (P : Program) (w : World) (a : Addr) (m : Mode) (k : FloatKind) (x : Nat) : (store a (.float k x) m).run P w = stored P w a (.float k x) m := run_store P w a _ m rfl
/-- A value of the program without rows. -/
def iv (k : Int) (x : Nat) (s : ByteArray) : Value := .agg #[.int .i64 k, .float .f64 x, .string s, .slice none 0 0]
set_option maxRecDepth 100000 in
set_option maxHeartbeats 1000000 in
theorem of_text (s : ByteArray) (w : World) :
    Calls Tryz.prog 18 #[sv 2 0 0 s] w fun e w' => e = .returned (iv 2 0 s) ∧ Fr w w' := by
  unfold sv
  go_enter Tryz.func18, Tryz.ntmps18
  go_wp2
  exact bodyPost_ret (v := .agg #[.int .i64 2, .float .f64 0, .string s, .slice none 0 0]) (by simp [results, Tryz.results18, go_sem, sv, mt, *]) rfl ⟨rfl, (by repeat (first | (with_reducible exact Fr.refl _) | ((with_reducible refine Fr.set ?_ ?_ _); focus (simp; done)) | (with_reducible refine Fr.alloc ?_ _) | (with_reducible refine Fr.drew ?_) | (with_reducible refine Fr.step ?_ (by assumption))))⟩
end Go.Proofs.YtollahofgcabpaaGreatDoor
