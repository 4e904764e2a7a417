import Derived.Test.YtcmpfcijockmhaaGreatDoorS13
set_option linter.unusedSimpArgs false
set_option linter.unusedVariables false
namespace Go.Proofs.YtcmpfcijockmhaaGreatDoor
open Go.RowKit
set_option maxRecDepth 100000 in
set_option maxHeartbeats 2000000 in
theorem Fits_LEN (A : Option Addr) (cap : Nat) (s : ByteArray) (w : World) (hv : VL w A [tx s]) (hs : s.size ≤ maxLen) :
    Calls Tryz.prog 40 #[.string nmLEN, .slice A 1 cap] w fun e w' => e = .returned (.bool (asc s.data.toList)) ∧ Fr w w' := by
  have Hv := Lib.hid hv; clear hv
  have Hs := Lib.hid hs; clear hs
  go_enter Tryz.func40, Tryz.ntmps40
  go_wp2_with fail
  refine (fitsNumbers_LEN A cap [tx s] _ Hv.out (fun x hx => by simp at hx; subst hx; exact Hs.out)).mono ?_
  rintro e w1 ⟨rfl, hf1⟩
  go_wp2_with fail
  refine (fitsTexts_LEN A cap s _ (Hv.out.fr hf1) Hs.out).mono ?_
  rintro e w2 ⟨rfl, hf2⟩
  have hf := hf1.step hf2
  go_wp2
  go_ret
  exact ⟨rfl, hf⟩
set_option maxRecDepth 100000 in
set_option maxHeartbeats 2000000 in
theorem Fits_UNICODE (A : Option Addr) (cap : Nat) (s : ByteArray) (w : World) (hv : VL w A [tx s]) (hs : s.size ≤ maxLen) :
    Calls Tryz.prog 40 #[.string nmUNICODE, .slice A 1 cap] w fun e w' => e = .returned (.bool (asc s.data.toList)) ∧ Fr w w' := by
  have Hv := Lib.hid hv; clear hv
  have Hs := Lib.hid hs; clear hs
  go_enter Tryz.func40, Tryz.ntmps40
  go_wp2_with fail
  refine (fitsNumbers_UNICODE A cap [tx s] _ Hv.out (fun x hx => by simp at hx; subst hx; exact Hs.out)).mono ?_
  rintro e w1 ⟨rfl, hf1⟩
  go_wp2_with fail
  refine (fitsTexts_UNICODE A cap s _ (Hv.out.fr hf1) Hs.out).mono ?_
  rintro e w2 ⟨rfl, hf2⟩
  have hf := hf1.step hf2
  go_wp2
  go_ret
  exact ⟨rfl, hf⟩
set_option maxRecDepth 100000 in
set_option maxHeartbeats 2000000 in
theorem Fits_CONCAT (A : Option Addr) (cap : Nat) (l : List SVal) (w : World) (hv : VL w A l) (hs : Short l) (B : SVal → Bool) (hn : 0 < l.length)
    (hF : ∀ x ∈ l, ∀ w, Calls Tryz.prog 154 #[x.v] w fun e w' => e = .returned (.bool (B x)) ∧ Fr w w') :
    Calls Tryz.prog 40 #[.string nmCONCAT, .slice A l.length cap] w fun e w' => e = .returned (.bool (l.all B)) ∧ Fr w w' := by
  have Hv := Lib.hid hv; clear hv
  have Hs := Lib.hid hs; clear hs
  have HF := Lib.hid hF; clear hF
  go_enter Tryz.func40, Tryz.ntmps40
  go_wp2_with fail
  refine (fitsNumbers_CONCAT A cap l _ Hv.out Hs.out).mono ?_
  rintro e w1 ⟨rfl, hf1⟩
  go_wp2_with fail
  refine (fitsTexts_CONCAT A cap l _ (Hv.out.fr hf1) B hn HF.out).mono ?_
  rintro e w2 ⟨rfl, hf2⟩
  have hf := hf1.step hf2
  go_wp2
  go_ret
  exact ⟨rfl, hf⟩
set_option maxRecDepth 100000 in
set_option maxHeartbeats 2000000 in
theorem Fits_none (A : Option Addr) (cap : Nat) (w : World) :
    Calls Tryz.prog 40 #[.string nmCONCAT, .slice A 0 cap] w fun e w' => e = .returned (.bool false) ∧ Fr w w' := by
  go_enter Tryz.func40, Tryz.ntmps40
  go_wp2_with fail
  refine (fitsNumbers_CONCAT A cap [] _ ⟨by simp, by simp⟩ (fun x hx => by simp at hx)).mono ?_
  rintro e w1 ⟨rfl, hf1⟩
  go_wp2_with fail
  refine (fitsTexts_none A cap _).mono ?_
  rintro e w2 ⟨rfl, hf2⟩
  have hf := hf1.step hf2
  go_wp2
  go_ret
  exact ⟨rfl, hf⟩
set_option maxRecDepth 100000 in
set_option maxHeartbeats 2000000 in
theorem Stat_LEN (A : Option Addr) (n cap : Nat) (w : World) :
    Calls Tryz.prog 41 #[.string nmLEN, .slice A n cap] w fun e w' => e = .returned (.tuple #[sv 0 0 0 mt, .bool false]) ∧ Fr w w' := by
  unfold nmLEN
  go_enter Tryz.func41, Tryz.ntmps41
  go_wp2
  exact bodyPost_ret (v := .tuple #[sv 0 0 0 mt, .bool false]) (by simp [results, Tryz.results41, go_sem, sv, mt, *]) rfl ⟨rfl, (by repeat (first | (with_reducible exact Fr.refl _) | ((with_reducible refine Fr.set ?_ ?_ _); focus (simp; done)) | (with_reducible refine Fr.alloc ?_ _) | (with_reducible refine Fr.drew ?_) | (with_reducible refine Fr.step ?_ (by assumption))))⟩
set_option maxRecDepth 100000 in
set_option maxHeartbeats 2000000 in
theorem Criteria_LEN (A : Option Addr) (n cap : Nat) (w : World) :
    Calls Tryz.prog 42 #[.string nmLEN, .slice A n cap] w fun e w' => e = .returned (.tuple #[sv 0 0 0 mt, .bool false]) ∧ Fr w w' := by
  unfold nmLEN
  go_enter Tryz.func42, Tryz.ntmps42
  go_wp2
  exact bodyPost_ret (v := .tuple #[sv 0 0 0 mt, .bool false]) (by simp [results, Tryz.results42, go_sem, sv, mt, *]) rfl ⟨rfl, (by repeat (first | (with_reducible exact Fr.refl _) | ((with_reducible refine Fr.set ?_ ?_ _); focus (simp; done)) | (with_reducible refine Fr.alloc ?_ _) | (with_reducible refine Fr.drew ?_) | (with_reducible refine Fr.step ?_ (by assumption))))⟩
set_option maxRecDepth 100000 in
set_option maxHeartbeats 2000000 in
theorem Lookup_LEN (A : Option Addr) (n cap : Nat) (w : World) :
    Calls Tryz.prog 43 #[.string nmLEN, .slice A n cap] w fun e w' => e = .returned (.tuple #[sv 0 0 0 mt, .bool false]) ∧ Fr w w' := by
  unfold nmLEN
  go_enter Tryz.func43, Tryz.ntmps43
  go_wp2
  exact bodyPost_ret (v := .tuple #[sv 0 0 0 mt, .bool false]) (by simp [results, Tryz.results43, go_sem, sv, mt, *]) rfl ⟨rfl, (by repeat (first | (with_reducible exact Fr.refl _) | ((with_reducible refine Fr.set ?_ ?_ _); focus (simp; done)) | (with_reducible refine Fr.alloc ?_ _) | (with_reducible refine Fr.drew ?_) | (with_reducible refine Fr.step ?_ (by assumption))))⟩
set_option maxRecDepth 100000 in
set_option maxHeartbeats 2000000 in
theorem CallMath_LEN (A : Option Addr) (n cap : Nat) (w : World) :
    Calls Tryz.prog 44 #[.string nmLEN, .slice A n cap] w fun e w' => e = .returned (.tuple #[sv 0 0 0 mt, .bool false]) ∧ Fr w w' := by
  unfold nmLEN
  go_enter Tryz.func44, Tryz.ntmps44
  go_wp2
  exact bodyPost_ret (v := .tuple #[sv 0 0 0 mt, .bool false]) (by simp [results, Tryz.results44, go_sem, sv, mt, *]) rfl ⟨rfl, (by repeat (first | (with_reducible exact Fr.refl _) | ((with_reducible refine Fr.set ?_ ?_ _); focus (simp; done)) | (with_reducible refine Fr.alloc ?_ _) | (with_reducible refine Fr.drew ?_) | (with_reducible refine Fr.step ?_ (by assumption))))⟩
set_option maxRecDepth 100000 in
set_option maxHeartbeats 2000000 in
theorem Stat_UNICODE (A : Option Addr) (n cap : Nat) (w : World) :
    Calls Tryz.prog 41 #[.string nmUNICODE, .slice A n cap] w fun e w' => e = .returned (.tuple #[sv 0 0 0 mt, .bool false]) ∧ Fr w w' := by
  unfold nmUNICODE
  go_enter Tryz.func41, Tryz.ntmps41
  go_wp2
  exact bodyPost_ret (v := .tuple #[sv 0 0 0 mt, .bool false]) (by simp [results, Tryz.results41, go_sem, sv, mt, *]) rfl ⟨rfl, (by repeat (first | (with_reducible exact Fr.refl _) | ((with_reducible refine Fr.set ?_ ?_ _); focus (simp; done)) | (with_reducible refine Fr.alloc ?_ _) | (with_reducible refine Fr.drew ?_) | (with_reducible refine Fr.step ?_ (by assumption))))⟩
set_option maxRecDepth 100000 in
set_option maxHeartbeats 2000000 in
theorem Criteria_UNICODE (A : Option Addr) (n cap : Nat) (w : World) :
    Calls Tryz.prog 42 #[.string nmUNICODE, .slice A n cap] w fun e w' => e = .returned (.tuple #[sv 0 0 0 mt, .bool false]) ∧ Fr w w' := by
  unfold nmUNICODE
  go_enter Tryz.func42, Tryz.ntmps42
  go_wp2
  exact bodyPost_ret (v := .tuple #[sv 0 0 0 mt, .bool false]) (by simp [results, Tryz.results42, go_sem, sv, mt, *]) rfl ⟨rfl, (by repeat (first | (with_reducible exact Fr.refl _) | ((with_reducible refine Fr.set ?_ ?_ _); focus (simp; done)) | (with_reducible refine Fr.alloc ?_ _) | (with_reducible refine Fr.drew ?_) | (with_reducible refine Fr.step ?_ (by assumption))))⟩
set_option maxRecDepth 100000 in
set_option maxHeartbeats 2000000 in
theorem Lookup_UNICODE (A : Option Addr) (n cap : Nat) (w : World) :
    Calls Tryz.prog 43 #[.string nmUNICODE, .slice A n cap] w fun e w' => e = .returned (.tuple #[sv 0 0 0 mt, .bool false]) ∧ Fr w w' := by
  unfold nmUNICODE
  go_enter Tryz.func43, Tryz.ntmps43
  go_wp2
  exact bodyPost_ret (v := .tuple #[sv 0 0 0 mt, .bool false]) (by simp [results, Tryz.results43, go_sem, sv, mt, *]) rfl ⟨rfl, (by repeat (first | (with_reducible exact Fr.refl _) | ((with_reducible refine Fr.set ?_ ?_ _); focus (simp; done)) | (with_reducible refine Fr.alloc ?_ _) | (with_reducible refine Fr.drew ?_) | (with_reducible refine Fr.step ?_ (by assumption))))⟩
set_option maxRecDepth 100000 in
set_option maxHeartbeats 2000000 in
theorem CallMath_UNICODE (A : Option Addr) (n cap : Nat) (w : World) :
    Calls Tryz.prog 44 #[.string nmUNICODE, .slice A n cap] w fun e w' => e = .returned (.tuple #[sv 0 0 0 mt, .bool false]) ∧ Fr w w' := by
  unfold nmUNICODE
  go_enter Tryz.func44, Tryz.ntmps44
  go_wp2
  exact bodyPost_ret (v := .tuple #[sv 0 0 0 mt, .bool false]) (by simp [results, Tryz.results44, go_sem, sv, mt, *]) rfl ⟨rfl, (by repeat (first | (with_reducible exact Fr.refl _) | ((with_reducible refine Fr.set ?_ ?_ _); focus (simp; done)) | (with_reducible refine Fr.alloc ?_ _) | (with_reducible refine Fr.drew ?_) | (with_reducible refine Fr.step ?_ (by assumption))))⟩
set_option maxRecDepth 100000 in
set_option maxHeartbeats 2000000 in
theorem Stat_CONCAT (A : Option Addr) (n cap : Nat) (w : World) :
    Calls Tryz.prog 41 #[.string nmCONCAT, .slice A n cap] w fun e w' => e = .returned (.tuple #[sv 0 0 0 mt, .bool false]) ∧ Fr w w' := by
  unfold nmCONCAT
  go_enter Tryz.func41, Tryz.ntmps41
  go_wp2
  exact bodyPost_ret (v := .tuple #[sv 0 0 0 mt, .bool false]) (by simp [results, Tryz.results41, go_sem, sv, mt, *]) rfl ⟨rfl, (by repeat (first | (with_reducible exact Fr.refl _) | ((with_reducible refine Fr.set ?_ ?_ _); focus (simp; done)) | (with_reducible refine Fr.alloc ?_ _) | (with_reducible refine Fr.drew ?_) | (with_reducible refine Fr.step ?_ (by assumption))))⟩
set_option maxRecDepth 100000 in
set_option maxHeartbeats 2000000 in
theorem Criteria_CONCAT (A : Option Addr) (n cap : Nat) (w : World) :
    Calls Tryz.prog 42 #[.string nmCONCAT, .slice A n cap] w fun e w' => e = .returned (.tuple #[sv 0 0 0 mt, .bool false]) ∧ Fr w w' := by
  unfold nmCONCAT
  go_enter Tryz.func42, Tryz.ntmps42
  go_wp2
  exact bodyPost_ret (v := .tuple #[sv 0 0 0 mt, .bool false]) (by simp [results, Tryz.results42, go_sem, sv, mt, *]) rfl ⟨rfl, (by repeat (first | (with_reducible exact Fr.refl _) | ((with_reducible refine Fr.set ?_ ?_ _); focus (simp; done)) | (with_reducible refine Fr.alloc ?_ _) | (with_reducible refine Fr.drew ?_) | (with_reducible refine Fr.step ?_ (by assumption))))⟩
set_option maxRecDepth 100000 in
set_option maxHeartbeats 2000000 in
theorem Lookup_CONCAT (A : Option Addr) (n cap : Nat) (w : World) :
    Calls Tryz.prog 43 #[.string nmCONCAT, .slice A n cap] w fun e w' => e = .returned (.tuple #[sv 0 0 0 mt, .bool false]) ∧ Fr w w' := by
  unfold nmCONCAT
  go_enter Tryz.func43, Tryz.ntmps43
  go_wp2
  exact bodyPost_ret (v := .tuple #[sv 0 0 0 mt, .bool false]) (by simp [results, Tryz.results43, go_sem, sv, mt, *]) rfl ⟨rfl, (by repeat (first | (with_reducible exact Fr.refl _) | ((with_reducible refine Fr.set ?_ ?_ _); focus (simp; done)) | (with_reducible refine Fr.alloc ?_ _) | (with_reducible refine Fr.drew ?_) | (with_reducible refine Fr.step ?_ (by assumption))))⟩
set_option maxRecDepth 100000 in
set_option maxHeartbeats 2000000 in
theorem CallMath_CONCAT (A : Option Addr) (n cap : Nat) (w : World) :
    Calls Tryz.prog 44 #[.string nmCONCAT, .slice A n cap] w fun e w' => e = .returned (.tuple #[sv 0 0 0 mt, .bool false]) ∧ Fr w w' := by
  unfold nmCONCAT
  go_enter Tryz.func44, Tryz.ntmps44
  go_wp2
  exact bodyPost_ret (v := .tuple #[sv 0 0 0 mt, .bool false]) (by simp [results, Tryz.results44, go_sem, sv, mt, *]) rfl ⟨rfl, (by repeat (first | (with_reducible exact Fr.refl _) | ((with_reducible refine Fr.set ?_ ?_ _); focus (simp; done)) | (with_reducible refine Fr.alloc ?_ _) | (with_reducible refine Fr.drew ?_) | (with_reducible refine Fr.step ?_ (by assumption))))⟩
set_option maxRecDepth 100000 in
set_option maxHeartbeats 2000000 in
theorem Stat_SWITCH (A : Option Addr) (n cap : Nat) (w : World) :
    Calls Tryz.prog 41 #[.string nmSWITCH, .slice A n cap] w fun e w' => e = .returned (.tuple #[sv 0 0 0 mt, .bool false]) ∧ Fr w w' := by
  unfold nmSWITCH
  go_enter Tryz.func41, Tryz.ntmps41
  go_wp2
  exact bodyPost_ret (v := .tuple #[sv 0 0 0 mt, .bool false]) (by simp [results, Tryz.results41, go_sem, sv, mt, *]) rfl ⟨rfl, (by repeat (first | (with_reducible exact Fr.refl _) | ((with_reducible refine Fr.set ?_ ?_ _); focus (simp; done)) | (with_reducible refine Fr.alloc ?_ _) | (with_reducible refine Fr.drew ?_) | (with_reducible refine Fr.step ?_ (by assumption))))⟩
set_option maxRecDepth 100000 in
set_option maxHeartbeats 2000000 in
theorem Criteria_SWITCH (A : Option Addr) (n cap : Nat) (w : World) :
    Calls Tryz.prog 42 #[.string nmSWITCH, .slice A n cap] w fun e w' => e = .returned (.tuple #[sv 0 0 0 mt, .bool false]) ∧ Fr w w' := by
  unfold nmSWITCH
  go_enter Tryz.func42, Tryz.ntmps42
  go_wp2
  exact bodyPost_ret (v := .tuple #[sv 0 0 0 mt, .bool false]) (by simp [results, Tryz.results42, go_sem, sv, mt, *]) rfl ⟨rfl, (by repeat (first | (with_reducible exact Fr.refl _) | ((with_reducible refine Fr.set ?_ ?_ _); focus (simp; done)) | (with_reducible refine Fr.alloc ?_ _) | (with_reducible refine Fr.drew ?_) | (with_reducible refine Fr.step ?_ (by assumption))))⟩
set_option maxRecDepth 100000 in
set_option maxHeartbeats 2000000 in
theorem Lookup_SWITCH (A : Option Addr) (n cap : Nat) (w : World) :
    Calls Tryz.prog 43 #[.string nmSWITCH, .slice A n cap] w fun e w' => e = .returned (.tuple #[sv 0 0 0 mt, .bool false]) ∧ Fr w w' := by
  unfold nmSWITCH
  go_enter Tryz.func43, Tryz.ntmps43
  go_wp2
  exact bodyPost_ret (v := .tuple #[sv 0 0 0 mt, .bool false]) (by simp [results, Tryz.results43, go_sem, sv, mt, *]) rfl ⟨rfl, (by repeat (first | (with_reducible exact Fr.refl _) | ((with_reducible refine Fr.set ?_ ?_ _); focus (simp; done)) | (with_reducible refine Fr.alloc ?_ _) | (with_reducible refine Fr.drew ?_) | (with_reducible refine Fr.step ?_ (by assumption))))⟩
set_option maxRecDepth 100000 in
set_option maxHeartbeats 2000000 in
theorem CallMath_SWITCH (A : Option Addr) (n cap : Nat) (w : World) :
    Calls Tryz.prog 44 #[.string nmSWITCH, .slice A n cap] w fun e w' => e = .returned (.tuple #[sv 0 0 0 mt, .bool false]) ∧ Fr w w' := by
  unfold nmSWITCH
  go_enter Tryz.func44, Tryz.ntmps44
  go_wp2
  exact bodyPost_ret (v := .tuple #[sv 0 0 0 mt, .bool false]) (by simp [results, Tryz.results44, go_sem, sv, mt, *]) rfl ⟨rfl, (by repeat (first | (with_reducible exact Fr.refl _) | ((with_reducible refine Fr.set ?_ ?_ _); focus (simp; done)) | (with_reducible refine Fr.alloc ?_ _) | (with_reducible refine Fr.drew ?_) | (with_reducible refine Fr.step ?_ (by assumption))))⟩
set_option maxRecDepth 100000 in
set_option maxHeartbeats 2000000 in
theorem CallText_SWITCH (A : Option Addr) (n cap : Nat) (w : World) :
    Calls Tryz.prog 45 #[.string nmSWITCH, .slice A n cap] w fun e w' => e = .returned (.tuple #[sv 0 0 0 mt, .bool false]) ∧ Fr w w' := by
  unfold nmSWITCH
  go_enter Tryz.func45, Tryz.ntmps45
  go_wp2
  exact bodyPost_ret (v := .tuple #[sv 0 0 0 mt, .bool false]) (by simp [results, Tryz.results45, go_sem, sv, mt, *]) rfl ⟨rfl, (by repeat (first | (with_reducible exact Fr.refl _) | ((with_reducible refine Fr.set ?_ ?_ _); focus (simp; done)) | (with_reducible refine Fr.alloc ?_ _) | (with_reducible refine Fr.drew ?_) | (with_reducible refine Fr.step ?_ (by assumption))))⟩
end Go.Proofs.YtcmpfcijockmhaaGreatDoor
