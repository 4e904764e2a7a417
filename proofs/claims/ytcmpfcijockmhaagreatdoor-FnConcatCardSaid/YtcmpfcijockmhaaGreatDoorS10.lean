import Derived.Test.YtcmpfcijockmhaaGreatDoorS9
set_option linter.unusedSimpArgs false
set_option linter.unusedVariables false
namespace Go.Proofs.YtcmpfcijockmhaaGreatDoor
open Go.RowKit
/-- A text as a value. -/
def tx (s : ByteArray) : SVal := ⟨2, 0, 0, s⟩
set_option maxRecDepth 100000 in
set_option maxHeartbeats 1000000 in
theorem short_text (n d : Int) (s : ByteArray) (w : World) :
    Calls Tryz.prog 186 #[sv 2 n d s] w fun e w' => e = .returned (.bool false) ∧ Fr w w' := by
  unfold sv
  go_enter Tryz.func186, Tryz.ntmps186
  go_wp2_with fail
  refine (isWhole_no 2 n d s _ rfl).mono ?_
  rintro e w1 ⟨rfl, hf1⟩
  go_wp2
  go_ret
  exact ⟨rfl, (by repeat (first | (with_reducible exact Fr.refl _) | ((with_reducible refine Fr.set ?_ ?_ _); focus (simp; done)) | (with_reducible refine Fr.alloc ?_ _) | (with_reducible refine Fr.drew ?_) | (with_reducible refine Fr.step ?_ (by assumption))))⟩
set_option maxRecDepth 100000 in
set_option maxHeartbeats 1000000 in
theorem textual_text (s : ByteArray) (w : World) (hs : s.size ≤ maxLen) :
    Calls Tryz.prog 150 #[(tx s).v] w fun e w' => e = .returned (.bool (asc s.data.toList)) ∧ Fr w w' := by
  have Hs := Lib.hid hs; clear hs
  unfold tx SVal.v sv
  cases ha : asc s.data.toList
  · have Ha := Lib.hid ha; clear ha
    go_enter Tryz.func150, Tryz.ntmps150
    go_wp2_with fail
    refine (Ascii_any s _ Hs.out).mono ?_
    rintro e w1 ⟨rfl, rfl⟩
    rw [Ha.out]
    go_wp2_with fail
    refine (short_text 0 0 s _).mono ?_
    rintro e w1 ⟨rfl, hf1⟩
    go_wp2
    go_ret
    exact ⟨rfl, (by repeat (first | (with_reducible exact Fr.refl _) | ((with_reducible refine Fr.set ?_ ?_ _); focus (simp; done)) | (with_reducible refine Fr.alloc ?_ _) | (with_reducible refine Fr.drew ?_) | (with_reducible refine Fr.step ?_ (by assumption))))⟩
  · have Ha := Lib.hid ha; clear ha
    go_enter Tryz.func150, Tryz.ntmps150
    go_wp2_with fail
    refine (Ascii_any s _ Hs.out).mono ?_
    rintro e w1 ⟨rfl, rfl⟩
    rw [Ha.out]
    go_wp2
    go_ret
    exact ⟨rfl, (by repeat (first | (with_reducible exact Fr.refl _) | ((with_reducible refine Fr.set ?_ ?_ _); focus (simp; done)) | (with_reducible refine Fr.alloc ?_ _) | (with_reducible refine Fr.drew ?_) | (with_reducible refine Fr.step ?_ (by assumption))))⟩
set_option maxRecDepth 100000 in
set_option maxHeartbeats 1000000 in
theorem concatFit_text (s : ByteArray) (w : World) (hs : s.size ≤ maxLen) :
    Calls Tryz.prog 154 #[(tx s).v] w fun e w' => e = .returned (.bool (asc s.data.toList)) ∧ Fr w w' := by
  have Hs := Lib.hid hs; clear hs
  have Ht := Lib.hid (fun w => textual_text s w Hs.out)
  unfold tx SVal.v sv at *
  cases ha : asc s.data.toList
  · rw [ha] at Ht
    go_enter Tryz.func154, Tryz.ntmps154
    go_wp2_with fail
    refine (Ht.out _).mono ?_
    rintro e w1 ⟨rfl, hf1⟩
    obtain ⟨hc1, hz1⟩ := hf1.cells
    go_wp2
    go_ret
    exact ⟨rfl, (by repeat (first | (with_reducible exact Fr.refl _) | ((with_reducible refine Fr.set ?_ ?_ _); focus (simp; done)) | (with_reducible refine Fr.alloc ?_ _) | (with_reducible refine Fr.drew ?_) | (with_reducible refine Fr.step ?_ (by assumption))))⟩
  · rw [ha] at Ht
    go_enter Tryz.func154, Tryz.ntmps154
    go_wp2_with fail
    refine (Ht.out _).mono ?_
    rintro e w1 ⟨rfl, hf1⟩
    go_wp2
    go_ret
    exact ⟨rfl, (by repeat (first | (with_reducible exact Fr.refl _) | ((with_reducible refine Fr.set ?_ ?_ _); focus (simp; done)) | (with_reducible refine Fr.alloc ?_ _) | (with_reducible refine Fr.drew ?_) | (with_reducible refine Fr.step ?_ (by assumption))))⟩
set_option maxRecDepth 100000 in
set_option maxHeartbeats 1000000 in
theorem fitsTexts_LEN (A : Option Addr) (cap : Nat) (s : ByteArray) (w : World) (hv : VL w A [tx s]) (hs : s.size ≤ maxLen) :
    Calls Tryz.prog 64 #[.string nmLEN, .slice A 1 cap] w fun e w' => e = .returned (.tuple #[.bool (asc s.data.toList), .bool true]) ∧ Fr w w' := by
  have Hs := Lib.hid hs; clear hs
  have Ht := Lib.hid (fun w => textual_text s w Hs.out)
  obtain ⟨g, rfl, hg, c0, c1, c2, c3, c4⟩ := hv.at (i := 0) (by simp)
  simp only [List.getElem_cons_zero, Nat.zero_mul, Nat.zero_add] at c0 c1 c2 c3 c4
  unfold tx SVal.v sv at *
  simp only at c0 c1 c2 c3 c4
  unfold nmLEN
  clear hv
  go_enter Tryz.func64, Tryz.ntmps64
  go_wp2_with fail
  refine (Ht.out _).mono ?_
  rintro e w1 ⟨rfl, hf1⟩
  go_wp2
  go_ret2
  exact ⟨rfl, (by repeat (first | (with_reducible exact Fr.refl _) | ((with_reducible refine Fr.set ?_ ?_ _); focus (simp; done)) | (with_reducible refine Fr.alloc ?_ _) | (with_reducible refine Fr.drew ?_) | (with_reducible refine Fr.step ?_ (by assumption))))⟩
set_option maxRecDepth 100000 in
set_option maxHeartbeats 1000000 in
theorem fitsTexts_UNICODE (A : Option Addr) (cap : Nat) (s : ByteArray) (w : World) (hv : VL w A [tx s]) (hs : s.size ≤ maxLen) :
    Calls Tryz.prog 64 #[.string nmUNICODE, .slice A 1 cap] w fun e w' => e = .returned (.tuple #[.bool (asc s.data.toList), .bool true]) ∧ Fr w w' := by
  have Hs := Lib.hid hs; clear hs
  have Ht := Lib.hid (fun w => textual_text s w Hs.out)
  obtain ⟨g, rfl, hg, c0, c1, c2, c3, c4⟩ := hv.at (i := 0) (by simp)
  simp only [List.getElem_cons_zero, Nat.zero_mul, Nat.zero_add] at c0 c1 c2 c3 c4
  unfold tx SVal.v sv at *
  simp only at c0 c1 c2 c3 c4
  unfold nmUNICODE
  clear hv
  go_enter Tryz.func64, Tryz.ntmps64
  go_wp2_with fail
  refine (Ht.out _).mono ?_
  rintro e w1 ⟨rfl, hf1⟩
  go_wp2
  go_ret2
  exact ⟨rfl, (by repeat (first | (with_reducible exact Fr.refl _) | ((with_reducible refine Fr.set ?_ ?_ _); focus (simp; done)) | (with_reducible refine Fr.alloc ?_ _) | (with_reducible refine Fr.drew ?_) | (with_reducible refine Fr.step ?_ (by assumption))))⟩
set_option maxRecDepth 100000 in
set_option maxHeartbeats 1000000 in
theorem fitsTexts_CONCAT (A : Option Addr) (cap : Nat) (l : List SVal) (w : World) (hv : VL w A l) (B : SVal → Bool) (hn : 0 < l.length)
    (hF : ∀ x ∈ l, ∀ w, Calls Tryz.prog 154 #[x.v] w fun e w' => e = .returned (.bool (B x)) ∧ Fr w w') :
    Calls Tryz.prog 64 #[.string nmCONCAT, .slice A l.length cap] w fun e w' => e = .returned (.tuple #[.bool (l.all B), .bool true]) ∧ Fr w w' := by
  have Hv := Lib.hid hv; clear hv
  have HF := Lib.hid hF; clear hF
  unfold nmCONCAT
  go_enter Tryz.func64, Tryz.ntmps64
  go_wp2_with fail
  refine (every_fn_texts B A cap l _ Hv.out HF.out).mono ?_
  rintro e w1 ⟨rfl, hf1⟩
  go_wp2
  go_ret2
  exact ⟨rfl, (by repeat (first | (with_reducible exact Fr.refl _) | ((with_reducible refine Fr.set ?_ ?_ _); focus (simp; done)) | (with_reducible refine Fr.alloc ?_ _) | (with_reducible refine Fr.drew ?_) | (with_reducible refine Fr.step ?_ (by assumption))))⟩
set_option maxRecDepth 100000 in
set_option maxHeartbeats 1000000 in
theorem fitsTexts_none (A : Option Addr) (cap : Nat) (w : World) :
    Calls Tryz.prog 64 #[.string nmCONCAT, .slice A 0 cap] w fun e w' => e = .returned (.tuple #[.bool false, .bool true]) ∧ Fr w w' := by
  unfold nmCONCAT
  go_enter Tryz.func64, Tryz.ntmps64
  go_wp2
  go_ret2
  exact ⟨rfl, (by repeat (first | (with_reducible exact Fr.refl _) | ((with_reducible refine Fr.set ?_ ?_ _); focus (simp; done)) | (with_reducible refine Fr.alloc ?_ _) | (with_reducible refine Fr.drew ?_) | (with_reducible refine Fr.step ?_ (by assumption))))⟩
set_option maxRecDepth 100000 in
set_option maxHeartbeats 1000000 in
theorem fitsTexts_SWITCH (A : Option Addr) (n cap : Nat) (w : World) (hn : n ≤ 1000000) :
    Calls Tryz.prog 64 #[.string nmSWITCH, .slice A n cap] w fun e w' => e = .returned (.tuple #[.bool false, .bool false]) ∧ w = w' := by
  unfold nmSWITCH
  go_enter Tryz.func64, Tryz.ntmps64
  go_wp2
  go_ret2
  exact ⟨rfl, rfl⟩
end Go.Proofs.YtcmpfcijockmhaaGreatDoor
