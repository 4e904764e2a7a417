import Derived.Test.YtollahofgcabpaaGreatDoorS26
set_option linter.unusedSimpArgs false
set_option linter.unusedVariables false
namespace Go.Proofs.YtollahofgcabpaaGreatDoor
open Go.RowKit
open Fl
open Ieee (double)
set_option maxRecDepth 100000 in
set_option maxHeartbeats 2000000 in
theorem doorFuncs_any (w : World) :
    Calls Tryz.prog 20 #[] w fun e w' => ∃ b, e = .returned (.pointer (some ⟨b, 0, none⟩)) ∧ Fr w w' := by
  go_enter Tryz.func20, Tryz.ntmps20
  go_wp2
  go_ret
  exact ⟨_, rfl, (by repeat (first | (with_reducible exact Fr.refl _) | ((with_reducible refine Fr.set ?_ ?_ _); focus (simp; done)) | (with_reducible refine Fr.alloc ?_ _) | (with_reducible refine Fr.drew ?_) | (with_reducible refine Fr.step ?_ (by assumption))))⟩
def txI (s : ByteArray) : IVal := ⟨2, 0, s⟩
def txA (x : IVal) : Array Value := #[.string mt, .float .f64 0, .string x.t, .slice none 0 0, .slice none 0 0, .bool false, .string mt, .int .u8 2, .pointer none, .pointer none]
theorem inner_txts {l : List IVal} (hl : ∀ x ∈ l, x = txI x.t) : ∀ x ∈ l, ∀ w, Calls Tryz.prog 36 #[x.v] w fun e w' => e = .returned (.agg (txA x)) ∧ Fr w w' := by
  intro x hx w
  rw [hl x hx]
  exact innerArg_text x.t w
end Go.Proofs.YtollahofgcabpaaGreatDoor
