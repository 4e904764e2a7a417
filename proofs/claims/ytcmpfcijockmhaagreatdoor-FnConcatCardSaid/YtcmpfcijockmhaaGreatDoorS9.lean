import Derived.Test.YtcmpfcijockmhaaGreatDoorS8
set_option linter.unusedSimpArgs false
set_option linter.unusedVariables false
namespace Go.Proofs.YtcmpfcijockmhaaGreatDoor
open Go.RowKit
theorem numeric_any (x : SVal) (w : World) (hs : x.t.size ≤ maxLen) : Calls Tryz.prog 146 #[x.v] w (SomeB w) := by
  unfold SVal.v
  by_cases h1 : x.k = 1 ∨ x.k = 3
  · exact (numeric_number x.k x.n x.d x.t w h1).mono fun e w' ⟨he, hf⟩ => ⟨_, he, hf⟩
  · by_cases h2 : x.k = 2
    · rw [h2]; exact numeric_text x.n x.d x.t w hs
    · exact (numeric_none x.k x.n x.d x.t w (by simp; omega) (by simpa using h2) (by simp; omega)).mono fun e w' ⟨he, hf⟩ => ⟨_, he, hf⟩
/-- The texts are no longer than a string can be. -/
def Short (l : List SVal) : Prop := ∀ x ∈ l, x.t.size ≤ maxLen
def nmLEN : ByteArray := ⟨#[76, 69, 78]⟩
def nmUNICODE : ByteArray := ⟨#[85, 78, 73, 67, 79, 68, 69]⟩
def nmCONCAT : ByteArray := ⟨#[67, 79, 78, 67, 65, 84]⟩
def nmSWITCH : ByteArray := ⟨#[83, 87, 73, 84, 67, 72]⟩
set_option maxRecDepth 100000 in
set_option maxHeartbeats 1000000 in
theorem fitsNumbers_LEN (A : Option Addr) (cap : Nat) (l : List SVal) (w : World) (hv : VL w A l) (hs : Short l) :
    Calls Tryz.prog 63 #[.string nmLEN, .slice A l.length cap] w fun e w' => e = .returned (.tuple #[.bool false, .bool false]) ∧ Fr w w' := by
  unfold nmLEN
  have Hv := Lib.hid hv; clear hv
  have Hs := Lib.hid hs; clear hs
  go_enter Tryz.func63, Tryz.ntmps63
  go_wp2_with fail
  refine (every_some_numeric A cap l _ Hv.out (fun x hx w => numeric_any x w (Hs.out x hx))).mono ?_
  rintro e w1 ⟨b, rfl, hf1⟩
  go_wp2
  go_ret2
  exact ⟨rfl, (by repeat (first | (with_reducible exact Fr.refl _) | ((with_reducible refine Fr.set ?_ ?_ _); focus (simp; done)) | (with_reducible refine Fr.alloc ?_ _) | (with_reducible refine Fr.drew ?_) | (with_reducible refine Fr.step ?_ (by assumption))))⟩
set_option maxRecDepth 100000 in
set_option maxHeartbeats 1000000 in
theorem fitsNumbers_UNICODE (A : Option Addr) (cap : Nat) (l : List SVal) (w : World) (hv : VL w A l) (hs : Short l) :
    Calls Tryz.prog 63 #[.string nmUNICODE, .slice A l.length cap] w fun e w' => e = .returned (.tuple #[.bool false, .bool false]) ∧ Fr w w' := by
  unfold nmUNICODE
  have Hv := Lib.hid hv; clear hv
  have Hs := Lib.hid hs; clear hs
  go_enter Tryz.func63, Tryz.ntmps63
  go_wp2_with fail
  refine (every_some_numeric A cap l _ Hv.out (fun x hx w => numeric_any x w (Hs.out x hx))).mono ?_
  rintro e w1 ⟨b, rfl, hf1⟩
  go_wp2
  go_ret2
  exact ⟨rfl, (by repeat (first | (with_reducible exact Fr.refl _) | ((with_reducible refine Fr.set ?_ ?_ _); focus (simp; done)) | (with_reducible refine Fr.alloc ?_ _) | (with_reducible refine Fr.drew ?_) | (with_reducible refine Fr.step ?_ (by assumption))))⟩
set_option maxRecDepth 100000 in
set_option maxHeartbeats 1000000 in
theorem fitsNumbers_CONCAT (A : Option Addr) (cap : Nat) (l : List SVal) (w : World) (hv : VL w A l) (hs : Short l) :
    Calls Tryz.prog 63 #[.string nmCONCAT, .slice A l.length cap] w fun e w' => e = .returned (.tuple #[.bool false, .bool false]) ∧ Fr w w' := by
  unfold nmCONCAT
  have Hv := Lib.hid hv; clear hv
  have Hs := Lib.hid hs; clear hs
  go_enter Tryz.func63, Tryz.ntmps63
  go_wp2_with fail
  refine (every_some_numeric A cap l _ Hv.out (fun x hx w => numeric_any x w (Hs.out x hx))).mono ?_
  rintro e w1 ⟨b, rfl, hf1⟩
  go_wp2
  go_ret2
  exact ⟨rfl, (by repeat (first | (with_reducible exact Fr.refl _) | ((with_reducible refine Fr.set ?_ ?_ _); focus (simp; done)) | (with_reducible refine Fr.alloc ?_ _) | (with_reducible refine Fr.drew ?_) | (with_reducible refine Fr.step ?_ (by assumption))))⟩
set_option maxRecDepth 100000 in
set_option maxHeartbeats 1000000 in
theorem fitsNumbers_SWITCH (A : Option Addr) (cap : Nat) (l : List SVal) (w : World) (hv : VL w A l) (hs : Short l) :
    Calls Tryz.prog 63 #[.string nmSWITCH, .slice A l.length cap] w fun e w' => e = .returned (.tuple #[.bool false, .bool false]) ∧ Fr w w' := by
  unfold nmSWITCH
  have Hv := Lib.hid hv; clear hv
  have Hs := Lib.hid hs; clear hs
  go_enter Tryz.func63, Tryz.ntmps63
  go_wp2_with fail
  refine (every_some_numeric A cap l _ Hv.out (fun x hx w => numeric_any x w (Hs.out x hx))).mono ?_
  rintro e w1 ⟨b, rfl, hf1⟩
  go_wp2
  go_ret2
  exact ⟨rfl, (by repeat (first | (with_reducible exact Fr.refl _) | ((with_reducible refine Fr.set ?_ ?_ _); focus (simp; done)) | (with_reducible refine Fr.alloc ?_ _) | (with_reducible refine Fr.drew ?_) | (with_reducible refine Fr.step ?_ (by assumption))))⟩
end Go.Proofs.YtcmpfcijockmhaaGreatDoor
