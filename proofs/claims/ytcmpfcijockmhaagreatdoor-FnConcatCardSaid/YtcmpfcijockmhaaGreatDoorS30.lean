import Derived.Test.YtcmpfcijockmhaaGreatDoorS29
set_option linter.unusedSimpArgs false
set_option linter.unusedVariables false
namespace Go.Proofs.YtcmpfcijockmhaaGreatDoor
open Go.RowKit
open Fl
open Ieee (double)
/-- Whether a text is of blank to tilde. -/
def ascV (x : SVal) : Bool := asc x.t.data.toList
theorem fit_txts {l : List SVal} (hk : ∀ x ∈ l, x = tx x.t ∧ x.t.size ≤ maxLen) : ∀ x ∈ l, ∀ w, Calls Tryz.prog 154 #[x.v] w fun e w' => e = .returned (.bool (ascV x)) ∧ Fr w w' := by
  intro x hx w
  obtain ⟨h1, h2⟩ := hk x hx
  have := concatFit_text x.t w h2
  rw [← h1] at this
  exact this
theorem all_asc {l : List SVal} (hk : ∀ x ∈ l, x = tx x.t ∧ x.t.size ≤ maxLen) (ha : l.all ascV = true) : ∀ x ∈ l, x = tx x.t ∧ x.t.size ≤ maxLen ∧ asc x.t.data.toList = true :=
  fun x hx => ⟨(hk x hx).1, (hk x hx).2, List.all_eq_true.1 ha x hx⟩
def catV (l : List SVal) : Value := sv 2 0 0 (cat (l.map SVal.t))
set_option maxRecDepth 100000 in
set_option maxHeartbeats 4000000 in
theorem CallText_CONCAT (A : Option Addr) (cap : Nat) (l : List SVal) (w : World) (hv : VL w A l) (hn : 0 < l.length) (hk : ∀ x ∈ l, x = tx x.t ∧ x.t.size ≤ maxLen) (ht : total (l.map SVal.t) ≤ 20000) (ha : l.all ascV = true) :
    Calls Tryz.prog 45 #[.string nmCONCAT, .slice A l.length cap] w fun e w' => e = .returned (.tuple #[catV l, .bool true]) ∧ Fr w w' := by
  have Hv := Lib.hid hv; clear hv
  have Ha := Lib.hid (all_asc hk ha); clear ha
  have Hf := Lib.hid (fun w hv => joined_CONCAT A cap l w hv hn Ha.out ht)
  clear hk hn ht
  unfold nmCONCAT catV at *
  go_enter Tryz.func45, Tryz.ntmps45
  go_wp2_with fail
  refine (Hf.out _ (Hv.out.fr (by repeat (first | (with_reducible exact Fr.refl _) | ((with_reducible refine Fr.set ?_ ?_ _); focus (simp; done)) | (with_reducible refine Fr.alloc ?_ _) | (with_reducible refine Fr.drew ?_) | (with_reducible refine Fr.step ?_ (by assumption)))))).mono ?_
  rintro e w1 ⟨rfl, hf1⟩
  have hlt1 := hf1.size
  simp at hlt1
  obtain ⟨hc1, hz1⟩ := hf1.cells
  simp at hc1 hz1
  have h01 : w.heap.size < w1.heap.size := by omega
  unfold sv
  go_wp2
  exact bodyPost_ret (v := .tuple #[sv 2 0 0 (cat (l.map SVal.t)), .bool true]) (by simp [results, Tryz.results45, go_sem, sv, mt, *]) rfl ⟨rfl, (by repeat (first | (with_reducible exact Fr.refl _) | ((with_reducible refine Fr.set ?_ ?_ _); focus (simp; done)) | (with_reducible refine Fr.alloc ?_ _) | (with_reducible refine Fr.drew ?_) | (with_reducible refine Fr.step ?_ (by assumption))))⟩
set_option maxRecDepth 100000 in
set_option maxHeartbeats 4000000 in
theorem CallOver_CONCAT_no (A : Option Addr) (cap : Nat) (l : List SVal) (w : World) (hv : VL w A l) (hn : 0 < l.length) (hk : ∀ x ∈ l, x = tx x.t ∧ x.t.size ≤ maxLen) (ht : total (l.map SVal.t) ≤ 20000) (ha : l.all ascV = false) :
    Calls Tryz.prog 29 #[.string nmCONCAT, .slice A l.length cap, .slice A l.length cap] w fun e w' => e = .returned (sv 6 0 0 mt) ∧ Fr w w' := by
  have Hv := Lib.hid hv; clear hv
  have Ha := Lib.hid ha; clear ha
  have Hs := Lib.hid (show Short l from fun x hx => (hk x hx).2)
  have Hk := Lib.hid (fit_txts hk)
  have Hn := Lib.hid hn
  clear hk hn ht
  go_enter Tryz.func29, Tryz.ntmps29
  go_wp2_with fail
  refine (Fits_CONCAT A cap l _ (Hv.out.fr (by repeat (first | (with_reducible exact Fr.refl _) | ((with_reducible refine Fr.set ?_ ?_ _); focus (simp; done)) | (with_reducible refine Fr.alloc ?_ _) | (with_reducible refine Fr.drew ?_) | (with_reducible refine Fr.step ?_ (by assumption))))) Hs.out ascV Hn.out Hk.out).mono ?_
  rintro e w1 ⟨rfl, hf1⟩
  have hlt1 := hf1.size
  try simp at hlt1
  obtain ⟨hc1, hz1⟩ := hf1.cells
  try simp at hc1
  try simp at hz1
  have h01 : w.heap.size < w1.heap.size := by omega
  have H01 : w.heap.size < w1.heap.size + 1 := by omega
  rw [Ha.out]
  go_wp2_with fail
  refine (Doubt_any _).mono ?_
  rintro e w2 ⟨rfl, hf2⟩
  have hlt2 := hf2.size
  try simp at hlt2
  obtain ⟨hc2, hz2⟩ := hf2.cells
  try simp at hc2
  try simp at hz2
  have h02 : w.heap.size < w2.heap.size := by omega
  have H02 : w.heap.size < w2.heap.size + 1 := by omega
  unfold sv
  go_wp2
  exact bodyPost_ret (v := sv 6 0 0 mt) (by simp [results, Tryz.results29, go_sem, sv, mt, *]) rfl ⟨rfl, (by repeat (first | (with_reducible exact Fr.refl _) | ((with_reducible refine Fr.set ?_ ?_ _); focus (simp; done)) | (with_reducible refine Fr.alloc ?_ _) | (with_reducible refine Fr.drew ?_) | (with_reducible refine Fr.step ?_ (by assumption))))⟩
set_option maxRecDepth 100000 in
set_option maxHeartbeats 4000000 in
theorem CallOver_CONCAT_none (A : Option Addr) (cap : Nat) (w : World) :
    Calls Tryz.prog 29 #[.string nmCONCAT, .slice A 0 cap, .slice A 0 cap] w fun e w' => e = .returned (sv 6 0 0 mt) ∧ Fr w w' := by
  go_enter Tryz.func29, Tryz.ntmps29
  go_wp2_with fail
  refine (Fits_none A cap _).mono ?_
  rintro e w1 ⟨rfl, hf1⟩
  have hlt1 := hf1.size
  try simp at hlt1
  obtain ⟨hc1, hz1⟩ := hf1.cells
  try simp at hc1
  try simp at hz1
  have h01 : w.heap.size < w1.heap.size := by omega
  have H01 : w.heap.size < w1.heap.size + 1 := by omega
  go_wp2_with fail
  refine (Doubt_any _).mono ?_
  rintro e w2 ⟨rfl, hf2⟩
  have hlt2 := hf2.size
  try simp at hlt2
  obtain ⟨hc2, hz2⟩ := hf2.cells
  try simp at hc2
  try simp at hz2
  have h02 : w.heap.size < w2.heap.size := by omega
  have H02 : w.heap.size < w2.heap.size + 1 := by omega
  unfold sv
  go_wp2
  exact bodyPost_ret (v := sv 6 0 0 mt) (by simp [results, Tryz.results29, go_sem, sv, mt, *]) rfl ⟨rfl, (by repeat (first | (with_reducible exact Fr.refl _) | ((with_reducible refine Fr.set ?_ ?_ _); focus (simp; done)) | (with_reducible refine Fr.alloc ?_ _) | (with_reducible refine Fr.drew ?_) | (with_reducible refine Fr.step ?_ (by assumption))))⟩
set_option maxRecDepth 100000 in
set_option maxHeartbeats 4000000 in
theorem CallOver_CONCAT_yes (A : Option Addr) (cap : Nat) (l : List SVal) (w : World) (hv : VL w A l) (hn : 0 < l.length) (hk : ∀ x ∈ l, x = tx x.t ∧ x.t.size ≤ maxLen) (ht : total (l.map SVal.t) ≤ 20000) (ha : l.all ascV = true) :
    Calls Tryz.prog 29 #[.string nmCONCAT, .slice A l.length cap, .slice A l.length cap] w fun e w' => e = .returned (catV l) ∧ Fr w w' := by
  have Hv := Lib.hid hv; clear hv
  have Ha := Lib.hid ha
  have Hs := Lib.hid (show Short l from fun x hx => (hk x hx).2)
  have Hk := Lib.hid (fit_txts hk)
  have Hn := Lib.hid hn
  have Hc := Lib.hid (fun w hv => CallText_CONCAT A cap l w hv hn hk ht ha)
  clear hk hn ht ha
  unfold catV at *
  go_enter Tryz.func29, Tryz.ntmps29
  go_wp2_with fail
  refine (Fits_CONCAT A cap l _ (Hv.out.fr (by repeat (first | (with_reducible exact Fr.refl _) | ((with_reducible refine Fr.set ?_ ?_ _); focus (simp; done)) | (with_reducible refine Fr.alloc ?_ _) | (with_reducible refine Fr.drew ?_) | (with_reducible refine Fr.step ?_ (by assumption))))) Hs.out ascV Hn.out Hk.out).mono ?_
  rintro e w1 ⟨rfl, hf1⟩
  have hlt1 := hf1.size
  try simp at hlt1
  obtain ⟨hc1, hz1⟩ := hf1.cells
  try simp at hc1
  try simp at hz1
  have h01 : w.heap.size < w1.heap.size := by omega
  have H01 : w.heap.size < w1.heap.size + 1 := by omega
  rw [Ha.out]
  go_wp2_with fail
  refine (Stat_CONCAT A l.length cap _).mono ?_
  rintro e w2 ⟨rfl, hf2⟩
  have hlt2 := hf2.size
  try simp at hlt2
  obtain ⟨hc2, hz2⟩ := hf2.cells
  try simp at hc2
  try simp at hz2
  have h02 : w.heap.size < w2.heap.size := by omega
  have H02 : w.heap.size < w2.heap.size + 1 := by omega
  unfold sv
  go_wp2_with fail
  refine (Criteria_CONCAT A l.length cap _).mono ?_
  rintro e w3 ⟨rfl, hf3⟩
  have hlt3 := hf3.size
  try simp at hlt3
  obtain ⟨hc3, hz3⟩ := hf3.cells
  try simp at hc3
  try simp at hz3
  have h03 : w.heap.size < w3.heap.size := by omega
  have H03 : w.heap.size < w3.heap.size + 1 := by omega
  unfold sv
  go_wp2_with fail
  refine (Lookup_CONCAT A l.length cap _).mono ?_
  rintro e w4 ⟨rfl, hf4⟩
  have hlt4 := hf4.size
  try simp at hlt4
  obtain ⟨hc4, hz4⟩ := hf4.cells
  try simp at hc4
  try simp at hz4
  have h04 : w.heap.size < w4.heap.size := by omega
  have H04 : w.heap.size < w4.heap.size + 1 := by omega
  unfold sv
  go_wp2_with fail
  refine (CallMath_CONCAT A l.length cap _).mono ?_
  rintro e w5 ⟨rfl, hf5⟩
  have hlt5 := hf5.size
  try simp at hlt5
  obtain ⟨hc5, hz5⟩ := hf5.cells
  try simp at hc5
  try simp at hz5
  have h05 : w.heap.size < w5.heap.size := by omega
  have H05 : w.heap.size < w5.heap.size + 1 := by omega
  unfold sv
  go_wp2_with fail
  refine (Hc.out _ (Hv.out.fr (by repeat (first | (with_reducible exact Fr.refl _) | ((with_reducible refine Fr.set ?_ ?_ _); focus (simp; done)) | (with_reducible refine Fr.alloc ?_ _) | (with_reducible refine Fr.drew ?_) | (with_reducible refine Fr.step ?_ (by assumption)))))).mono ?_
  rintro e w6 ⟨rfl, hf6⟩
  have hlt6 := hf6.size
  try simp at hlt6
  obtain ⟨hc6, hz6⟩ := hf6.cells
  try simp at hc6
  try simp at hz6
  have h06 : w.heap.size < w6.heap.size := by omega
  have H06 : w.heap.size < w6.heap.size + 1 := by omega
  unfold sv
  go_wp2
  exact bodyPost_ret (v := sv 2 0 0 (cat (l.map SVal.t))) (by simp [results, Tryz.results29, go_sem, sv, mt, *]) rfl ⟨rfl, (by repeat (first | (with_reducible exact Fr.refl _) | ((with_reducible refine Fr.set ?_ ?_ _); focus (simp; done)) | (with_reducible refine Fr.alloc ?_ _) | (with_reducible refine Fr.drew ?_) | (with_reducible refine Fr.step ?_ (by assumption))))⟩
set_option maxRecDepth 100000 in
set_option maxHeartbeats 4000000 in
theorem Call_CONCAT_no (A : Option Addr) (cap : Nat) (l : List SVal) (w : World) (hv : VL w A l) (hn : 0 < l.length) (hk : ∀ x ∈ l, x = tx x.t ∧ x.t.size ≤ maxLen) (ht : total (l.map SVal.t) ≤ 20000) (ha : l.all ascV = false) :
    Calls Tryz.prog 17 #[.string nmCONCAT, .slice A l.length cap] w fun e w' => e = .returned (sv 6 0 0 mt) ∧ Fr w w' := by
  have Hv := Lib.hid hv; clear hv
  have Hc := Lib.hid (fun w hv => CallOver_CONCAT_no A cap l w hv hn hk ht ha)
  clear hk hn ht ha
  go_enter Tryz.func17, Tryz.ntmps17
  go_wp2_with fail
  refine (Hc.out _ (Hv.out.fr (by repeat (first | (with_reducible exact Fr.refl _) | ((with_reducible refine Fr.set ?_ ?_ _); focus (simp; done)) | (with_reducible refine Fr.alloc ?_ _) | (with_reducible refine Fr.drew ?_) | (with_reducible refine Fr.step ?_ (by assumption)))))).mono ?_
  rintro e w1 ⟨rfl, hf1⟩
  have hlt1 := hf1.size
  simp at hlt1
  have h01 : w.heap.size < w1.heap.size := by omega
  obtain ⟨hc1, hz1⟩ := hf1.cells
  simp at hc1 hz1
  unfold sv
  go_wp2
  exact bodyPost_ret (v := sv 6 0 0 mt) (by simp [results, Tryz.results17, go_sem, sv, mt, *]) rfl ⟨rfl, (by repeat (first | (with_reducible exact Fr.refl _) | ((with_reducible refine Fr.set ?_ ?_ _); focus (simp; done)) | (with_reducible refine Fr.alloc ?_ _) | (with_reducible refine Fr.drew ?_) | (with_reducible refine Fr.step ?_ (by assumption))))⟩
set_option maxRecDepth 100000 in
set_option maxHeartbeats 4000000 in
theorem Call_CONCAT_yes (A : Option Addr) (cap : Nat) (l : List SVal) (w : World) (hv : VL w A l) (hn : 0 < l.length) (hk : ∀ x ∈ l, x = tx x.t ∧ x.t.size ≤ maxLen) (ht : total (l.map SVal.t) ≤ 20000) (ha : l.all ascV = true) :
    Calls Tryz.prog 17 #[.string nmCONCAT, .slice A l.length cap] w fun e w' => e = .returned (catV l) ∧ Fr w w' := by
  have Hv := Lib.hid hv; clear hv
  have Hc := Lib.hid (fun w hv => CallOver_CONCAT_yes A cap l w hv hn hk ht ha)
  clear hk hn ht ha
  unfold catV at *
  go_enter Tryz.func17, Tryz.ntmps17
  go_wp2_with fail
  refine (Hc.out _ (Hv.out.fr (by repeat (first | (with_reducible exact Fr.refl _) | ((with_reducible refine Fr.set ?_ ?_ _); focus (simp; done)) | (with_reducible refine Fr.alloc ?_ _) | (with_reducible refine Fr.drew ?_) | (with_reducible refine Fr.step ?_ (by assumption)))))).mono ?_
  rintro e w1 ⟨rfl, hf1⟩
  have hlt1 := hf1.size
  simp at hlt1
  have h01 : w.heap.size < w1.heap.size := by omega
  obtain ⟨hc1, hz1⟩ := hf1.cells
  simp at hc1 hz1
  unfold sv
  go_wp2
  exact bodyPost_ret (v := sv 2 0 0 (cat (l.map SVal.t))) (by simp [results, Tryz.results17, go_sem, sv, mt, *]) rfl ⟨rfl, (by repeat (first | (with_reducible exact Fr.refl _) | ((with_reducible refine Fr.set ?_ ?_ _); focus (simp; done)) | (with_reducible refine Fr.alloc ?_ _) | (with_reducible refine Fr.drew ?_) | (with_reducible refine Fr.step ?_ (by assumption))))⟩
set_option maxRecDepth 100000 in
set_option maxHeartbeats 4000000 in
theorem Call_CONCAT_none (A : Option Addr) (cap : Nat) (w : World) :
    Calls Tryz.prog 17 #[.string nmCONCAT, .slice A 0 cap] w fun e w' => e = .returned (sv 6 0 0 mt) ∧ Fr w w' := by
  go_enter Tryz.func17, Tryz.ntmps17
  go_wp2_with fail
  refine (CallOver_CONCAT_none A cap _).mono ?_
  rintro e w1 ⟨rfl, hf1⟩
  have hlt1 := hf1.size
  simp at hlt1
  have h01 : w.heap.size < w1.heap.size := by omega
  obtain ⟨hc1, hz1⟩ := hf1.cells
  simp at hc1 hz1
  unfold sv
  go_wp2
  exact bodyPost_ret (v := sv 6 0 0 mt) (by simp [results, Tryz.results17, go_sem, sv, mt, *]) rfl ⟨rfl, (by repeat (first | (with_reducible exact Fr.refl _) | ((with_reducible refine Fr.set ?_ ?_ _); focus (simp; done)) | (with_reducible refine Fr.alloc ?_ _) | (with_reducible refine Fr.drew ?_) | (with_reducible refine Fr.step ?_ (by assumption))))⟩
end Go.Proofs.YtcmpfcijockmhaaGreatDoor
