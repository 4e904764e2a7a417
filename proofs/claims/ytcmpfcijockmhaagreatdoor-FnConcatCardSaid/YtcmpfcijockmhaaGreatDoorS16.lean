import Derived.Test.YtcmpfcijockmhaaGreatDoorS15
set_option linter.unusedSimpArgs false
set_option linter.unusedVariables false
namespace Go.Proofs.YtcmpfcijockmhaaGreatDoor
open Go.RowKit
def lenV (s : ByteArray) : Value := sv 1 s.size 1 mt
theorem uniV_sv (s : ByteArray) : ∃ k n d t, uniV s = sv k n d t := by
  unfold uniV; split <;> exact ⟨_, _, _, _, rfl⟩
theorem lenV_sv (s : ByteArray) : ∃ k n d t, lenV s = sv k n d t := ⟨_, _, _, _, rfl⟩
set_option maxRecDepth 100000 in
set_option maxHeartbeats 4000000 in
theorem CallOver_LEN_no (A : Option Addr) (cap : Nat) (s : ByteArray) (w : World) (hv : VL w A [tx s]) (hs : s.size ≤ 1000) (ha : asc s.data.toList = false) :
    Calls Tryz.prog 29 #[.string nmLEN, .slice A 1 cap, .slice A 1 cap] w fun e w' => e = .returned (sv 6 0 0 mt) ∧ Fr w w' := by
  have Hv := Lib.hid hv; clear hv
  have Ha := Lib.hid ha; clear ha
  have Hs := Lib.hid (short_len hs); clear hs
  go_enter Tryz.func29, Tryz.ntmps29
  go_wp2_with fail
  refine (Fits_LEN A cap s _ (Hv.out.fr (by repeat (first | (with_reducible exact Fr.refl _) | ((with_reducible refine Fr.set ?_ ?_ _); focus (simp; done)) | (with_reducible refine Fr.alloc ?_ _) | (with_reducible refine Fr.drew ?_) | (with_reducible refine Fr.step ?_ (by assumption))))) Hs.out).mono ?_
  rintro e w1 ⟨rfl, hf1⟩
  have hlt1 := hf1.size
  try simp at hlt1
  obtain ⟨hc1, hz1⟩ := hf1.cells
  try simp at hc1
  try simp at hz1
  have h01 : w.heap.size < w1.heap.size := by omega
  have H01 : w.heap.size < w1.heap.size + 1 := by omega
  rw [Ha.out]
  go_wp2_with fail
  refine (Doubt_any _).mono ?_
  rintro e w2 ⟨rfl, hf2⟩
  have hlt2 := hf2.size
  try simp at hlt2
  obtain ⟨hc2, hz2⟩ := hf2.cells
  try simp at hc2
  try simp at hz2
  have h02 : w.heap.size < w2.heap.size := by omega
  have H02 : w.heap.size < w2.heap.size + 1 := by omega
  unfold sv
  go_wp2
  exact bodyPost_ret (v := sv 6 0 0 mt) (by simp [results, Tryz.results29, go_sem, sv, mt, *]) rfl ⟨rfl, (by repeat (first | (with_reducible exact Fr.refl _) | ((with_reducible refine Fr.set ?_ ?_ _); focus (simp; done)) | (with_reducible refine Fr.alloc ?_ _) | (with_reducible refine Fr.drew ?_) | (with_reducible refine Fr.step ?_ (by assumption))))⟩
set_option maxRecDepth 100000 in
set_option maxHeartbeats 4000000 in
theorem CallOver_LEN_yes (A : Option Addr) (cap : Nat) (s : ByteArray) (w : World) (hv : VL w A [tx s]) (hs : s.size ≤ 1000) (ha : asc s.data.toList = true) :
    Calls Tryz.prog 29 #[.string nmLEN, .slice A 1 cap, .slice A 1 cap] w fun e w' => e = .returned (lenV s) ∧ Fr w w' := by
  have Hv := Lib.hid hv; clear hv
  have Ha := Lib.hid ha; clear ha
  have Hs := Lib.hid (short_len hs)
  have Hs1 := Lib.hid hs; clear hs
  obtain ⟨k, n, d, t, hvv⟩ := lenV_sv s
  have Hvv := Lib.hid hvv; clear hvv
  go_enter Tryz.func29, Tryz.ntmps29
  go_wp2_with fail
  refine (Fits_LEN A cap s _ (Hv.out.fr (by repeat (first | (with_reducible exact Fr.refl _) | ((with_reducible refine Fr.set ?_ ?_ _); focus (simp; done)) | (with_reducible refine Fr.alloc ?_ _) | (with_reducible refine Fr.drew ?_) | (with_reducible refine Fr.step ?_ (by assumption))))) Hs.out).mono ?_
  rintro e w1 ⟨rfl, hf1⟩
  have hlt1 := hf1.size
  try simp at hlt1
  obtain ⟨hc1, hz1⟩ := hf1.cells
  try simp at hc1
  try simp at hz1
  have h01 : w.heap.size < w1.heap.size := by omega
  have H01 : w.heap.size < w1.heap.size + 1 := by omega
  rw [Ha.out]
  go_wp2_with fail
  refine (Stat_LEN A 1 cap _).mono ?_
  rintro e w2 ⟨rfl, hf2⟩
  have hlt2 := hf2.size
  try simp at hlt2
  obtain ⟨hc2, hz2⟩ := hf2.cells
  try simp at hc2
  try simp at hz2
  have h02 : w.heap.size < w2.heap.size := by omega
  have H02 : w.heap.size < w2.heap.size + 1 := by omega
  unfold sv
  go_wp2_with fail
  refine (Criteria_LEN A 1 cap _).mono ?_
  rintro e w3 ⟨rfl, hf3⟩
  have hlt3 := hf3.size
  try simp at hlt3
  obtain ⟨hc3, hz3⟩ := hf3.cells
  try simp at hc3
  try simp at hz3
  have h03 : w.heap.size < w3.heap.size := by omega
  have H03 : w.heap.size < w3.heap.size + 1 := by omega
  unfold sv
  go_wp2_with fail
  refine (Lookup_LEN A 1 cap _).mono ?_
  rintro e w4 ⟨rfl, hf4⟩
  have hlt4 := hf4.size
  try simp at hlt4
  obtain ⟨hc4, hz4⟩ := hf4.cells
  try simp at hc4
  try simp at hz4
  have h04 : w.heap.size < w4.heap.size := by omega
  have H04 : w.heap.size < w4.heap.size + 1 := by omega
  unfold sv
  go_wp2_with fail
  refine (CallMath_LEN A 1 cap _).mono ?_
  rintro e w5 ⟨rfl, hf5⟩
  have hlt5 := hf5.size
  try simp at hlt5
  obtain ⟨hc5, hz5⟩ := hf5.cells
  try simp at hc5
  try simp at hz5
  have h05 : w.heap.size < w5.heap.size := by omega
  have H05 : w.heap.size < w5.heap.size + 1 := by omega
  unfold sv
  go_wp2_with fail
  refine (CallText_LEN A cap s _ (Hv.out.fr (by repeat (first | (with_reducible exact Fr.refl _) | ((with_reducible refine Fr.set ?_ ?_ _); focus (simp; done)) | (with_reducible refine Fr.alloc ?_ _) | (with_reducible refine Fr.drew ?_) | (with_reducible refine Fr.step ?_ (by assumption))))) Hs1.out Ha.out).mono ?_
  rintro e w6 ⟨rfl, hf6⟩
  have hlt6 := hf6.size
  try simp at hlt6
  obtain ⟨hc6, hz6⟩ := hf6.cells
  try simp at hc6
  try simp at hz6
  have h06 : w.heap.size < w6.heap.size := by omega
  have H06 : w.heap.size < w6.heap.size + 1 := by omega
  rw [show sv 1 s.size 1 mt = lenV s from rfl]
  rw [Hvv.out]
  unfold sv
  go_wp2
  exact bodyPost_ret (v := sv k n d t) (by simp [results, Tryz.results29, go_sem, sv, mt, *]) rfl ⟨by rw [Hvv.out], (by repeat (first | (with_reducible exact Fr.refl _) | ((with_reducible refine Fr.set ?_ ?_ _); focus (simp; done)) | (with_reducible refine Fr.alloc ?_ _) | (with_reducible refine Fr.drew ?_) | (with_reducible refine Fr.step ?_ (by assumption))))⟩
set_option maxRecDepth 100000 in
set_option maxHeartbeats 4000000 in
theorem Call_LEN (A : Option Addr) (cap : Nat) (s : ByteArray) (w : World) (hv : VL w A [tx s]) (hs : s.size ≤ 1000) :
    Calls Tryz.prog 17 #[.string nmLEN, .slice A 1 cap] w fun e w' => e = .returned (if asc s.data.toList then lenV s else sv 6 0 0 mt) ∧ Fr w w' := by
  have Hv := Lib.hid hv; clear hv
  have Hs := Lib.hid hs; clear hs
  obtain ⟨k, n, d, t, hvv⟩ := lenV_sv s
  have Hvv := Lib.hid hvv; clear hvv
  cases ha : asc s.data.toList
  · have Ha := Lib.hid ha; clear ha
    go_enter Tryz.func17, Tryz.ntmps17
    go_wp2_with fail
    refine (CallOver_LEN_no A cap s _ (Hv.out.fr (by repeat (first | (with_reducible exact Fr.refl _) | ((with_reducible refine Fr.set ?_ ?_ _); focus (simp; done)) | (with_reducible refine Fr.alloc ?_ _) | (with_reducible refine Fr.drew ?_) | (with_reducible refine Fr.step ?_ (by assumption))))) Hs.out Ha.out).mono ?_
    rintro e w1 ⟨rfl, hf1⟩
    have hlt1 := hf1.size
    simp at hlt1
    have h01 : w.heap.size < w1.heap.size := by omega
    obtain ⟨hc1, hz1⟩ := hf1.cells
    simp at hc1 hz1
    unfold sv
    go_wp2
    exact bodyPost_ret (v := sv 6 0 0 mt) (by simp [results, Tryz.results17, go_sem, sv, mt, *]) rfl ⟨rfl, (by repeat (first | (with_reducible exact Fr.refl _) | ((with_reducible refine Fr.set ?_ ?_ _); focus (simp; done)) | (with_reducible refine Fr.alloc ?_ _) | (with_reducible refine Fr.drew ?_) | (with_reducible refine Fr.step ?_ (by assumption))))⟩
  · have Ha := Lib.hid ha; clear ha
    go_enter Tryz.func17, Tryz.ntmps17
    go_wp2_with fail
    refine (CallOver_LEN_yes A cap s _ (Hv.out.fr (by repeat (first | (with_reducible exact Fr.refl _) | ((with_reducible refine Fr.set ?_ ?_ _); focus (simp; done)) | (with_reducible refine Fr.alloc ?_ _) | (with_reducible refine Fr.drew ?_) | (with_reducible refine Fr.step ?_ (by assumption))))) Hs.out Ha.out).mono ?_
    rintro e w1 ⟨rfl, hf1⟩
    have hlt1 := hf1.size
    simp at hlt1
    have h01 : w.heap.size < w1.heap.size := by omega
    obtain ⟨hc1, hz1⟩ := hf1.cells
    simp at hc1 hz1
    rw [Hvv.out]
    unfold sv
    go_wp2
    exact bodyPost_ret (v := sv k n d t) (by simp [results, Tryz.results17, go_sem, sv, mt, *]) rfl ⟨by rw [Hvv.out]; try rfl, (by repeat (first | (with_reducible exact Fr.refl _) | ((with_reducible refine Fr.set ?_ ?_ _); focus (simp; done)) | (with_reducible refine Fr.alloc ?_ _) | (with_reducible refine Fr.drew ?_) | (with_reducible refine Fr.step ?_ (by assumption))))⟩
set_option maxRecDepth 100000 in
set_option maxHeartbeats 4000000 in
theorem CallOver_UNICODE_no (A : Option Addr) (cap : Nat) (s : ByteArray) (w : World) (hv : VL w A [tx s]) (hs : s.size ≤ 1000) (ha : asc s.data.toList = false) :
    Calls Tryz.prog 29 #[.string nmUNICODE, .slice A 1 cap, .slice A 1 cap] w fun e w' => e = .returned (sv 6 0 0 mt) ∧ Fr w w' := by
  have Hv := Lib.hid hv; clear hv
  have Ha := Lib.hid ha; clear ha
  have Hs := Lib.hid (short_len hs); clear hs
  go_enter Tryz.func29, Tryz.ntmps29
  go_wp2_with fail
  refine (Fits_UNICODE A cap s _ (Hv.out.fr (by repeat (first | (with_reducible exact Fr.refl _) | ((with_reducible refine Fr.set ?_ ?_ _); focus (simp; done)) | (with_reducible refine Fr.alloc ?_ _) | (with_reducible refine Fr.drew ?_) | (with_reducible refine Fr.step ?_ (by assumption))))) Hs.out).mono ?_
  rintro e w1 ⟨rfl, hf1⟩
  have hlt1 := hf1.size
  try simp at hlt1
  obtain ⟨hc1, hz1⟩ := hf1.cells
  try simp at hc1
  try simp at hz1
  have h01 : w.heap.size < w1.heap.size := by omega
  have H01 : w.heap.size < w1.heap.size + 1 := by omega
  rw [Ha.out]
  go_wp2_with fail
  refine (Doubt_any _).mono ?_
  rintro e w2 ⟨rfl, hf2⟩
  have hlt2 := hf2.size
  try simp at hlt2
  obtain ⟨hc2, hz2⟩ := hf2.cells
  try simp at hc2
  try simp at hz2
  have h02 : w.heap.size < w2.heap.size := by omega
  have H02 : w.heap.size < w2.heap.size + 1 := by omega
  unfold sv
  go_wp2
  exact bodyPost_ret (v := sv 6 0 0 mt) (by simp [results, Tryz.results29, go_sem, sv, mt, *]) rfl ⟨rfl, (by repeat (first | (with_reducible exact Fr.refl _) | ((with_reducible refine Fr.set ?_ ?_ _); focus (simp; done)) | (with_reducible refine Fr.alloc ?_ _) | (with_reducible refine Fr.drew ?_) | (with_reducible refine Fr.step ?_ (by assumption))))⟩
set_option maxRecDepth 100000 in
set_option maxHeartbeats 4000000 in
theorem CallOver_UNICODE_yes (A : Option Addr) (cap : Nat) (s : ByteArray) (w : World) (hv : VL w A [tx s]) (hs : s.size ≤ 1000) (ha : asc s.data.toList = true) :
    Calls Tryz.prog 29 #[.string nmUNICODE, .slice A 1 cap, .slice A 1 cap] w fun e w' => e = .returned (uniV s) ∧ Fr w w' := by
  have Hv := Lib.hid hv; clear hv
  have Ha := Lib.hid ha; clear ha
  have Hs := Lib.hid (short_len hs)
  have Hs1 := Lib.hid hs; clear hs
  obtain ⟨k, n, d, t, hvv⟩ := uniV_sv s
  have Hvv := Lib.hid hvv; clear hvv
  go_enter Tryz.func29, Tryz.ntmps29
  go_wp2_with fail
  refine (Fits_UNICODE A cap s _ (Hv.out.fr (by repeat (first | (with_reducible exact Fr.refl _) | ((with_reducible refine Fr.set ?_ ?_ _); focus (simp; done)) | (with_reducible refine Fr.alloc ?_ _) | (with_reducible refine Fr.drew ?_) | (with_reducible refine Fr.step ?_ (by assumption))))) Hs.out).mono ?_
  rintro e w1 ⟨rfl, hf1⟩
  have hlt1 := hf1.size
  try simp at hlt1
  obtain ⟨hc1, hz1⟩ := hf1.cells
  try simp at hc1
  try simp at hz1
  have h01 : w.heap.size < w1.heap.size := by omega
  have H01 : w.heap.size < w1.heap.size + 1 := by omega
  rw [Ha.out]
  go_wp2_with fail
  refine (Stat_UNICODE A 1 cap _).mono ?_
  rintro e w2 ⟨rfl, hf2⟩
  have hlt2 := hf2.size
  try simp at hlt2
  obtain ⟨hc2, hz2⟩ := hf2.cells
  try simp at hc2
  try simp at hz2
  have h02 : w.heap.size < w2.heap.size := by omega
  have H02 : w.heap.size < w2.heap.size + 1 := by omega
  unfold sv
  go_wp2_with fail
  refine (Criteria_UNICODE A 1 cap _).mono ?_
  rintro e w3 ⟨rfl, hf3⟩
  have hlt3 := hf3.size
  try simp at hlt3
  obtain ⟨hc3, hz3⟩ := hf3.cells
  try simp at hc3
  try simp at hz3
  have h03 : w.heap.size < w3.heap.size := by omega
  have H03 : w.heap.size < w3.heap.size + 1 := by omega
  unfold sv
  go_wp2_with fail
  refine (Lookup_UNICODE A 1 cap _).mono ?_
  rintro e w4 ⟨rfl, hf4⟩
  have hlt4 := hf4.size
  try simp at hlt4
  obtain ⟨hc4, hz4⟩ := hf4.cells
  try simp at hc4
  try simp at hz4
  have h04 : w.heap.size < w4.heap.size := by omega
  have H04 : w.heap.size < w4.heap.size + 1 := by omega
  unfold sv
  go_wp2_with fail
  refine (CallMath_UNICODE A 1 cap _).mono ?_
  rintro e w5 ⟨rfl, hf5⟩
  have hlt5 := hf5.size
  try simp at hlt5
  obtain ⟨hc5, hz5⟩ := hf5.cells
  try simp at hc5
  try simp at hz5
  have h05 : w.heap.size < w5.heap.size := by omega
  have H05 : w.heap.size < w5.heap.size + 1 := by omega
  unfold sv
  go_wp2_with fail
  refine (CallText_UNICODE A cap s _ (Hv.out.fr (by repeat (first | (with_reducible exact Fr.refl _) | ((with_reducible refine Fr.set ?_ ?_ _); focus (simp; done)) | (with_reducible refine Fr.alloc ?_ _) | (with_reducible refine Fr.drew ?_) | (with_reducible refine Fr.step ?_ (by assumption))))) Hs1.out Ha.out).mono ?_
  rintro e w6 ⟨rfl, hf6⟩
  have hlt6 := hf6.size
  try simp at hlt6
  obtain ⟨hc6, hz6⟩ := hf6.cells
  try simp at hc6
  try simp at hz6
  have h06 : w.heap.size < w6.heap.size := by omega
  have H06 : w.heap.size < w6.heap.size + 1 := by omega
  rw [Hvv.out]
  unfold sv
  go_wp2
  exact bodyPost_ret (v := sv k n d t) (by simp [results, Tryz.results29, go_sem, sv, mt, *]) rfl ⟨by rw [Hvv.out], (by repeat (first | (with_reducible exact Fr.refl _) | ((with_reducible refine Fr.set ?_ ?_ _); focus (simp; done)) | (with_reducible refine Fr.alloc ?_ _) | (with_reducible refine Fr.drew ?_) | (with_reducible refine Fr.step ?_ (by assumption))))⟩
set_option maxRecDepth 100000 in
set_option maxHeartbeats 4000000 in
theorem Call_UNICODE (A : Option Addr) (cap : Nat) (s : ByteArray) (w : World) (hv : VL w A [tx s]) (hs : s.size ≤ 1000) :
    Calls Tryz.prog 17 #[.string nmUNICODE, .slice A 1 cap] w fun e w' => e = .returned (if asc s.data.toList then uniV s else sv 6 0 0 mt) ∧ Fr w w' := by
  have Hv := Lib.hid hv; clear hv
  have Hs := Lib.hid hs; clear hs
  obtain ⟨k, n, d, t, hvv⟩ := uniV_sv s
  have Hvv := Lib.hid hvv; clear hvv
  cases ha : asc s.data.toList
  · have Ha := Lib.hid ha; clear ha
    go_enter Tryz.func17, Tryz.ntmps17
    go_wp2_with fail
    refine (CallOver_UNICODE_no A cap s _ (Hv.out.fr (by repeat (first | (with_reducible exact Fr.refl _) | ((with_reducible refine Fr.set ?_ ?_ _); focus (simp; done)) | (with_reducible refine Fr.alloc ?_ _) | (with_reducible refine Fr.drew ?_) | (with_reducible refine Fr.step ?_ (by assumption))))) Hs.out Ha.out).mono ?_
    rintro e w1 ⟨rfl, hf1⟩
    have hlt1 := hf1.size
    simp at hlt1
    have h01 : w.heap.size < w1.heap.size := by omega
    obtain ⟨hc1, hz1⟩ := hf1.cells
    simp at hc1 hz1
    unfold sv
    go_wp2
    exact bodyPost_ret (v := sv 6 0 0 mt) (by simp [results, Tryz.results17, go_sem, sv, mt, *]) rfl ⟨rfl, (by repeat (first | (with_reducible exact Fr.refl _) | ((with_reducible refine Fr.set ?_ ?_ _); focus (simp; done)) | (with_reducible refine Fr.alloc ?_ _) | (with_reducible refine Fr.drew ?_) | (with_reducible refine Fr.step ?_ (by assumption))))⟩
  · have Ha := Lib.hid ha; clear ha
    go_enter Tryz.func17, Tryz.ntmps17
    go_wp2_with fail
    refine (CallOver_UNICODE_yes A cap s _ (Hv.out.fr (by repeat (first | (with_reducible exact Fr.refl _) | ((with_reducible refine Fr.set ?_ ?_ _); focus (simp; done)) | (with_reducible refine Fr.alloc ?_ _) | (with_reducible refine Fr.drew ?_) | (with_reducible refine Fr.step ?_ (by assumption))))) Hs.out Ha.out).mono ?_
    rintro e w1 ⟨rfl, hf1⟩
    have hlt1 := hf1.size
    simp at hlt1
    have h01 : w.heap.size < w1.heap.size := by omega
    obtain ⟨hc1, hz1⟩ := hf1.cells
    simp at hc1 hz1
    rw [Hvv.out]
    unfold sv
    go_wp2
    exact bodyPost_ret (v := sv k n d t) (by simp [results, Tryz.results17, go_sem, sv, mt, *]) rfl ⟨by rw [Hvv.out]; try rfl, (by repeat (first | (with_reducible exact Fr.refl _) | ((with_reducible refine Fr.set ?_ ?_ _); focus (simp; done)) | (with_reducible refine Fr.alloc ?_ _) | (with_reducible refine Fr.drew ?_) | (with_reducible refine Fr.step ?_ (by assumption))))⟩
end Go.Proofs.YtcmpfcijockmhaaGreatDoor
