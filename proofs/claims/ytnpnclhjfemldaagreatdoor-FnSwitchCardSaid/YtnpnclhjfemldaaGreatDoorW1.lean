import Derived.Test.YtnpnclhjfemldaaGreatDoorA2
import Derived.BigQuiet
import Derived.StillTailTactics
set_option linter.unusedSimpArgs false
set_option linter.unusedVariables false
/- The reference's SWITCH over whole numbers. -/
namespace Go.Proofs.YtnpnclhjfemldaaGreatDoor
open Go.RowKit
/-- A whole number; one of which the reference says nothing. -/
def nv (n : Int) : SVal := ⟨1, n, 1, mt⟩
def uv : SVal := ⟨6, 0, 0, mt⟩
def argV (n : Int) : SVal := if n > 99999999999 ∨ n < -99999999999 then uv else nv n
theorem intV_arg (n : Int) : intV n = (argV n).v := by unfold intV argV; split <;> rfl
set_option maxRecDepth 100000 in
set_option maxHeartbeats 1000000 in
theorem given_num (n : Int) (w : World) : Calls Tryz.prog 138 #[(nv n).v] w fun e w' => e = .returned (.bool true) ∧ Fr w w' := by
  show Calls Tryz.prog 138 #[sv 1 n 1 mt] w _
  unfold sv
  go_enter Tryz.func138, Tryz.ntmps138
  go_wp2
  go_ret
  exact ⟨rfl, (by repeat (first | (with_reducible exact Fr.refl _) | ((with_reducible refine Fr.set ?_ ?_ _); focus (simp; done)) | (with_reducible refine Fr.alloc ?_ _) | (with_reducible refine Fr.drew ?_) | (with_reducible refine Fr.step ?_ (by assumption))))⟩
set_option maxRecDepth 100000 in
set_option maxHeartbeats 1000000 in
theorem given_unsure (w : World) : Calls Tryz.prog 138 #[uv.v] w fun e w' => e = .returned (.bool false) ∧ Fr w w' := by
  show Calls Tryz.prog 138 #[sv 6 0 0 mt] w _
  unfold sv
  go_enter Tryz.func138, Tryz.ntmps138
  go_wp2
  go_ret
  exact ⟨rfl, (by repeat (first | (with_reducible exact Fr.refl _) | ((with_reducible refine Fr.set ?_ ?_ _); focus (simp; done)) | (with_reducible refine Fr.alloc ?_ _) | (with_reducible refine Fr.drew ?_) | (with_reducible refine Fr.step ?_ (by assumption))))⟩
def givenB (x : SVal) : Bool := x.k == 1
theorem given_any {l : List SVal} (hl : ∀ x ∈ l, (∃ n, x = nv n) ∨ x = uv) : ∀ x ∈ l, ∀ w, Calls Tryz.prog 138 #[x.v] w fun e w' => e = .returned (.bool (givenB x)) ∧ Fr w w' := by
  intro x hx w
  rcases hl x hx with ⟨n, rfl⟩ | rfl
  · exact given_num n w
  · exact given_unsure w
/-- Whether a whole number has less than seven digits. -/
def shortB (n : Int) : Bool := decide (n > -1000000) && decide (n < 1000000)
set_option maxRecDepth 100000 in
set_option maxHeartbeats 1000000 in
theorem short_num (n : Int) (w : World) : Calls Tryz.prog 163 #[(nv n).v] w fun e w' => e = .returned (.bool (shortB n)) ∧ Fr w w' := by
  show Calls Tryz.prog 163 #[sv 1 n 1 mt] w _
  by_cases h1 : -1000000 < n
  · by_cases h2 : n < 1000000
    · have hb : shortB n = true := by simp [shortB, h1, h2]
      rw [hb]
      clear hb
      have hd2 : decide (n < 1000000) = true := decide_eq_true h2
      unfold sv
      go_enter Tryz.func163, Tryz.ntmps163
      go_wp2_with fail
      refine (isWhole_yes 1 n 1 mt _ rfl).mono ?_
      rintro e w1 ⟨rfl, hf1⟩
      have hlt1 := hf1.size
      simp at hlt1
      obtain ⟨hc1, hz1⟩ := hf1.cells
      simp at hc1 hz1
      have h01 : w.heap.size < w1.heap.size := by omega
      go_wp2
      go_ret
      exact ⟨by first | rfl | (simp [*]; done), (by repeat (first | (with_reducible exact Fr.refl _) | ((with_reducible refine Fr.set ?_ ?_ _); focus (simp; done)) | (with_reducible refine Fr.alloc ?_ _) | (with_reducible refine Fr.drew ?_) | (with_reducible refine Fr.step ?_ (by assumption))))⟩
    · have hb : shortB n = false := by simp [shortB, h2]
      rw [hb]
      clear hb
      have hd2 : decide (n < 1000000) = false := decide_eq_false h2
      unfold sv
      go_enter Tryz.func163, Tryz.ntmps163
      go_wp2_with fail
      refine (isWhole_yes 1 n 1 mt _ rfl).mono ?_
      rintro e w1 ⟨rfl, hf1⟩
      have hlt1 := hf1.size
      simp at hlt1
      obtain ⟨hc1, hz1⟩ := hf1.cells
      simp at hc1 hz1
      have h01 : w.heap.size < w1.heap.size := by omega
      go_wp2
      go_ret
      exact ⟨by first | rfl | (simp [*]; done), (by repeat (first | (with_reducible exact Fr.refl _) | ((with_reducible refine Fr.set ?_ ?_ _); focus (simp; done)) | (with_reducible refine Fr.alloc ?_ _) | (with_reducible refine Fr.drew ?_) | (with_reducible refine Fr.step ?_ (by assumption))))⟩
  · have hb : shortB n = false := by simp [shortB, h1]
    rw [hb]
    clear hb
    unfold sv
    go_enter Tryz.func163, Tryz.ntmps163
    go_wp2_with fail
    refine (isWhole_yes 1 n 1 mt _ rfl).mono ?_
    rintro e w1 ⟨rfl, hf1⟩
    have hlt1 := hf1.size
    simp at hlt1
    obtain ⟨hc1, hz1⟩ := hf1.cells
    simp at hc1 hz1
    have h01 : w.heap.size < w1.heap.size := by omega
    go_wp2
    go_ret
    exact ⟨by first | rfl | (simp [*]; done), (by repeat (first | (with_reducible exact Fr.refl _) | ((with_reducible refine Fr.set ?_ ?_ _); focus (simp; done)) | (with_reducible refine Fr.alloc ?_ _) | (with_reducible refine Fr.drew ?_) | (with_reducible refine Fr.step ?_ (by assumption))))⟩
end Go.Proofs.YtnpnclhjfemldaaGreatDoor
