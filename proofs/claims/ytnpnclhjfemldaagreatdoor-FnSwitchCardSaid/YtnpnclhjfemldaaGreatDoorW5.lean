import Derived.Test.YtnpnclhjfemldaaGreatDoorW2
import Derived.Test.YtnpnclhjfemldaaGreatDoorA2
set_option linter.unusedSimpArgs false
set_option linter.unusedVariables false
/- The reference's SWITCH, by its name. -/
namespace Go.Proofs.YtnpnclhjfemldaaGreatDoor
open Go.RowKit
set_option maxRecDepth 100000 in
set_option maxHeartbeats 1000000 in
theorem fitsChoices_SWITCH (A : Option Addr) (m cap : Nat) (b : Bool) (w : World) (hm : m ≤ 1000000) (T : World → Prop) (hT : ∀ w w', T w → Fr w w' → T w') (ht : T w)
    (hF : ∀ w, T w → Calls Tryz.prog 139 #[.slice A m cap] w fun e w' => e = .returned (.bool b) ∧ Fr w w') :
    Calls Tryz.prog 45 #[.string nmSWITCH, .slice A m cap] w fun e w' => e = .returned (.tuple #[.bool b, .bool true]) ∧ Fr w w' := by
  have HF := Lib.hid hF; clear hF
  have HT := Lib.hid hT; clear hT
  have Ht := Lib.hid ht; clear ht
  unfold nmSWITCH
  go_enter Tryz.func45, Tryz.ntmps45
  go_wp2_with fail
  refine (HF.out _ (HT.out _ _ Ht.out (by repeat (first | (with_reducible exact Fr.refl _) | ((with_reducible refine Fr.set ?_ ?_ _); focus (simp; done)) | (with_reducible refine Fr.alloc ?_ _) | (with_reducible refine Fr.drew ?_) | (with_reducible refine Fr.step ?_ (by assumption)))))).mono ?_
  rintro e w1 ⟨rfl, hf1⟩
  go_wp2
  first | go_ret | go_ret2
  exact ⟨rfl, (by repeat (first | (with_reducible exact Fr.refl _) | ((with_reducible refine Fr.set ?_ ?_ _); focus (simp; done)) | (with_reducible refine Fr.alloc ?_ _) | (with_reducible refine Fr.drew ?_) | (with_reducible refine Fr.step ?_ (by assumption))))⟩
set_option maxRecDepth 100000 in
set_option maxHeartbeats 1000000 in
theorem Fits_SWITCH (A : Option Addr) (cap : Nat) (l : List SVal) (b : Bool) (w : World) (hv : VL w A l) (hs : Short l)
    (hF : ∀ w, VL w A l → Calls Tryz.prog 139 #[.slice A l.length cap] w fun e w' => e = .returned (.bool b) ∧ Fr w w') :
    Calls Tryz.prog 24 #[.string nmSWITCH, .slice A l.length cap] w fun e w' => e = .returned (.bool b) ∧ Fr w w' := by
  have hl := hv.1
  have Hv := Lib.hid hv; clear hv
  have Hs := Lib.hid hs; clear hs
  have HF := Lib.hid (fun w hw => fitsChoices_SWITCH A l.length cap b w hl (fun w => VL w A l) (fun _ _ h hf => h.fr hf) hw hF)
  clear hF
  go_enter Tryz.func24, Tryz.ntmps24
  go_wp2_with fail
  refine (fitsNumbers_SWITCH A cap l _ Hv.out Hs.out).mono ?_
  rintro e w1 ⟨rfl, hf1⟩
  go_wp2_with fail
  refine (fitsTexts_SWITCH A l.length cap _ hl).mono ?_
  rintro e w2 ⟨rfl, rfl⟩
  have hf := hf1
  go_wp2_with fail
  refine (HF.out _ (Hv.out.fr hf)).mono ?_
  rintro e w3 ⟨rfl, hf3⟩
  go_wp2
  go_ret
  exact ⟨rfl, hf.step hf3⟩
set_option maxRecDepth 100000 in
set_option maxHeartbeats 4000000 in
theorem CallLogic_SWITCH (A : Option Addr) (cap : Nat) (l : List SVal) (wk wn wd : Int) (wt : ByteArray) (w : World) (hv : VL w A l)
    (hF : ∀ w, VL w A l → Calls Tryz.prog 105 #[.slice A l.length cap] w fun e w' => e = .returned (sv wk wn wd wt) ∧ Fr w w') :
    Calls Tryz.prog 30 #[.string nmSWITCH, .slice A l.length cap] w fun e w' => e = .returned (.tuple #[sv wk wn wd wt, .bool true]) ∧ Fr w w' := by
  have Hv := Lib.hid hv; clear hv
  have HF := Lib.hid hF; clear hF
  unfold nmSWITCH
  go_enter Tryz.func30, Tryz.ntmps30
  go_wp2_with fail
  refine (HF.out _ (Hv.out.fr (by repeat (first | (with_reducible exact Fr.refl _) | ((with_reducible refine Fr.set ?_ ?_ _); focus (simp; done)) | (with_reducible refine Fr.alloc ?_ _) | (with_reducible refine Fr.drew ?_) | (with_reducible refine Fr.step ?_ (by assumption)))))).mono ?_
  rintro e w1 ⟨rfl, hf1⟩
  have hlt1 := hf1.size
  try simp at hlt1
  obtain ⟨hc1, hz1⟩ := hf1.cells
  try simp at hc1
  try simp at hz1
  have h01 : w.heap.size < w1.heap.size := by omega
  have H01 : w.heap.size < w1.heap.size + 1 := by omega
  unfold sv
  go_wp2
  exact bodyPost_ret (v := .tuple #[.agg #[.int .i64 wk, .int .i64 wn, .int .i64 wd, .string wt, .slice none 0 0], .bool true]) (by simp [results, Tryz.results30, go_sem, sv, mt, *]) rfl ⟨rfl, (by repeat (first | (with_reducible exact Fr.refl _) | ((with_reducible refine Fr.set ?_ ?_ _); focus (simp; done)) | (with_reducible refine Fr.alloc ?_ _) | (with_reducible refine Fr.drew ?_) | (with_reducible refine Fr.step ?_ (by assumption))))⟩
set_option maxRecDepth 100000 in
set_option maxHeartbeats 4000000 in
theorem CallOver_SWITCH_no (A : Option Addr) (cap : Nat) (l : List SVal) (w : World) (hv : VL w A l) (hs : Short l)
    (hF : ∀ w, VL w A l → Calls Tryz.prog 139 #[.slice A l.length cap] w fun e w' => e = .returned (.bool false) ∧ Fr w w') :
    Calls Tryz.prog 17 #[.string nmSWITCH, .slice A l.length cap, .slice A l.length cap] w fun e w' => e = .returned (sv 6 0 0 mt) ∧ Fr w w' := by
  have Hv := Lib.hid hv; clear hv
  have HF := Lib.hid (fun w hv => Fits_SWITCH A cap l false w hv hs hF)
  clear hs hF
  go_enter Tryz.func17, Tryz.ntmps17
  go_wp2_with fail
  refine (HF.out _ (Hv.out.fr (by repeat (first | (with_reducible exact Fr.refl _) | ((with_reducible refine Fr.set ?_ ?_ _); focus (simp; done)) | (with_reducible refine Fr.alloc ?_ _) | (with_reducible refine Fr.drew ?_) | (with_reducible refine Fr.step ?_ (by assumption)))))).mono ?_
  rintro e w1 ⟨rfl, hf1⟩
  have hlt1 := hf1.size
  try simp at hlt1
  obtain ⟨hc1, hz1⟩ := hf1.cells
  try simp at hc1
  try simp at hz1
  have h01 : w.heap.size < w1.heap.size := by omega
  have H01 : w.heap.size < w1.heap.size + 1 := by omega
  go_wp2_with fail
  refine (Doubt_any _).mono ?_
  rintro e w2 ⟨rfl, hf2⟩
  have hlt2 := hf2.size
  try simp at hlt2
  obtain ⟨hc2, hz2⟩ := hf2.cells
  try simp at hc2
  try simp at hz2
  have h02 : w.heap.size < w2.heap.size := by omega
  have H02 : w.heap.size < w2.heap.size + 1 := by omega
  unfold sv
  go_wp2
  exact bodyPost_ret (v := sv 6 0 0 mt) (by simp [results, Tryz.results17, go_sem, sv, mt, *]) rfl ⟨rfl, (by repeat (first | (with_reducible exact Fr.refl _) | ((with_reducible refine Fr.set ?_ ?_ _); focus (simp; done)) | (with_reducible refine Fr.alloc ?_ _) | (with_reducible refine Fr.drew ?_) | (with_reducible refine Fr.step ?_ (by assumption))))⟩
set_option maxRecDepth 100000 in
set_option maxHeartbeats 4000000 in
theorem CallOver_SWITCH_yes (A : Option Addr) (cap : Nat) (l : List SVal) (wk wn wd : Int) (wt : ByteArray) (w : World) (hv : VL w A l) (hs : Short l)
    (hF : ∀ w, VL w A l → Calls Tryz.prog 139 #[.slice A l.length cap] w fun e w' => e = .returned (.bool true) ∧ Fr w w')
    (hC : ∀ w, VL w A l → Calls Tryz.prog 105 #[.slice A l.length cap] w fun e w' => e = .returned (sv wk wn wd wt) ∧ Fr w w') :
    Calls Tryz.prog 17 #[.string nmSWITCH, .slice A l.length cap, .slice A l.length cap] w fun e w' => e = .returned (sv wk wn wd wt) ∧ Fr w w' := by
  have Hv := Lib.hid hv; clear hv
  have HF := Lib.hid (fun w hv => Fits_SWITCH A cap l true w hv hs hF)
  have HC := Lib.hid (fun w hv => CallLogic_SWITCH A cap l wk wn wd wt w hv hC)
  clear hs hF hC
  go_enter Tryz.func17, Tryz.ntmps17
  go_wp2_with fail
  refine (HF.out _ (Hv.out.fr (by repeat (first | (with_reducible exact Fr.refl _) | ((with_reducible refine Fr.set ?_ ?_ _); focus (simp; done)) | (with_reducible refine Fr.alloc ?_ _) | (with_reducible refine Fr.drew ?_) | (with_reducible refine Fr.step ?_ (by assumption)))))).mono ?_
  rintro e w1 ⟨rfl, hf1⟩
  have hlt1 := hf1.size
  try simp at hlt1
  obtain ⟨hc1, hz1⟩ := hf1.cells
  try simp at hc1
  try simp at hz1
  have h01 : w.heap.size < w1.heap.size := by omega
  have H01 : w.heap.size < w1.heap.size + 1 := by omega
  go_wp2_with fail
  refine (Stat_SWITCH A l.length cap _).mono ?_
  rintro e w2 ⟨rfl, hf2⟩
  have hlt2 := hf2.size
  try simp at hlt2
  obtain ⟨hc2, hz2⟩ := hf2.cells
  try simp at hc2
  try simp at hz2
  have h02 : w.heap.size < w2.heap.size := by omega
  have H02 : w.heap.size < w2.heap.size + 1 := by omega
  unfold sv
  go_wp2_with fail
  refine (Criteria_SWITCH A l.length cap _).mono ?_
  rintro e w3 ⟨rfl, hf3⟩
  have hlt3 := hf3.size
  try simp at hlt3
  obtain ⟨hc3, hz3⟩ := hf3.cells
  try simp at hc3
  try simp at hz3
  have h03 : w.heap.size < w3.heap.size := by omega
  have H03 : w.heap.size < w3.heap.size + 1 := by omega
  unfold sv
  go_wp2_with fail
  refine (Lookup_SWITCH A l.length cap _).mono ?_
  rintro e w4 ⟨rfl, hf4⟩
  have hlt4 := hf4.size
  try simp at hlt4
  obtain ⟨hc4, hz4⟩ := hf4.cells
  try simp at hc4
  try simp at hz4
  have h04 : w.heap.size < w4.heap.size := by omega
  have H04 : w.heap.size < w4.heap.size + 1 := by omega
  unfold sv
  go_wp2_with fail
  refine (CallMath_SWITCH A l.length cap _).mono ?_
  rintro e w5 ⟨rfl, hf5⟩
  have hlt5 := hf5.size
  try simp at hlt5
  obtain ⟨hc5, hz5⟩ := hf5.cells
  try simp at hc5
  try simp at hz5
  have h05 : w.heap.size < w5.heap.size := by omega
  have H05 : w.heap.size < w5.heap.size + 1 := by omega
  unfold sv
  go_wp2_with fail
  refine (CallText_SWITCH A l.length cap _).mono ?_
  rintro e w6 ⟨rfl, hf6⟩
  have hlt6 := hf6.size
  try simp at hlt6
  obtain ⟨hc6, hz6⟩ := hf6.cells
  try simp at hc6
  try simp at hz6
  have h06 : w.heap.size < w6.heap.size := by omega
  have H06 : w.heap.size < w6.heap.size + 1 := by omega
  unfold sv
  go_wp2_with fail
  refine (HC.out _ (Hv.out.fr (by repeat (first | (with_reducible exact Fr.refl _) | ((with_reducible refine Fr.set ?_ ?_ _); focus (simp; done)) | (with_reducible refine Fr.alloc ?_ _) | (with_reducible refine Fr.drew ?_) | (with_reducible refine Fr.step ?_ (by assumption)))))).mono ?_
  rintro e w7 ⟨rfl, hf7⟩
  have hlt7 := hf7.size
  try simp at hlt7
  obtain ⟨hc7, hz7⟩ := hf7.cells
  try simp at hc7
  try simp at hz7
  have h07 : w.heap.size < w7.heap.size := by omega
  have H07 : w.heap.size < w7.heap.size + 1 := by omega
  unfold sv
  go_wp2
  exact bodyPost_ret (v := .agg #[.int .i64 wk, .int .i64 wn, .int .i64 wd, .string wt, .slice none 0 0]) (by simp [results, Tryz.results17, go_sem, sv, mt, *]) rfl ⟨rfl, (by repeat (first | (with_reducible exact Fr.refl _) | ((with_reducible refine Fr.set ?_ ?_ _); focus (simp; done)) | (with_reducible refine Fr.alloc ?_ _) | (with_reducible refine Fr.drew ?_) | (with_reducible refine Fr.step ?_ (by assumption))))⟩
set_option maxRecDepth 100000 in
set_option maxHeartbeats 4000000 in
theorem Call_SWITCH (A : Option Addr) (cap : Nat) (l : List SVal) (wk wn wd : Int) (wt : ByteArray) (w : World) (hv : VL w A l)
    (hC : ∀ w, VL w A l → Calls Tryz.prog 17 #[.string nmSWITCH, .slice A l.length cap, .slice A l.length cap] w fun e w' => e = .returned (sv wk wn wd wt) ∧ Fr w w') :
    Calls Tryz.prog 8 #[.string nmSWITCH, .slice A l.length cap] w fun e w' => e = .returned (sv wk wn wd wt) ∧ Fr w w' := by
  have Hv := Lib.hid hv; clear hv
  have HC := Lib.hid hC; clear hC
  go_enter Tryz.func8, Tryz.ntmps8
  go_wp2_with fail
  refine (HC.out _ (Hv.out.fr (by repeat (first | (with_reducible exact Fr.refl _) | ((with_reducible refine Fr.set ?_ ?_ _); focus (simp; done)) | (with_reducible refine Fr.alloc ?_ _) | (with_reducible refine Fr.drew ?_) | (with_reducible refine Fr.step ?_ (by assumption)))))).mono ?_
  rintro e w1 ⟨rfl, hf1⟩
  have hlt1 := hf1.size
  try simp at hlt1
  obtain ⟨hc1, hz1⟩ := hf1.cells
  try simp at hc1
  try simp at hz1
  have h01 : w.heap.size < w1.heap.size := by omega
  have H01 : w.heap.size < w1.heap.size + 1 := by omega
  unfold sv
  go_wp2
  exact bodyPost_ret (v := .agg #[.int .i64 wk, .int .i64 wn, .int .i64 wd, .string wt, .slice none 0 0]) (by simp [results, Tryz.results8, go_sem, sv, mt, *]) rfl ⟨rfl, (by repeat (first | (with_reducible exact Fr.refl _) | ((with_reducible refine Fr.set ?_ ?_ _); focus (simp; done)) | (with_reducible refine Fr.alloc ?_ _) | (with_reducible refine Fr.drew ?_) | (with_reducible refine Fr.step ?_ (by assumption))))⟩
end Go.Proofs.YtnpnclhjfemldaaGreatDoor
