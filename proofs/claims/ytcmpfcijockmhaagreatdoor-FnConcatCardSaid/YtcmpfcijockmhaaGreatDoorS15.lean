import Derived.Test.YtcmpfcijockmhaaGreatDoorS14
set_option linter.unusedSimpArgs false
set_option linter.unusedVariables false
namespace Go.Proofs.YtcmpfcijockmhaaGreatDoor
open Go.RowKit
theorem asc_ok {s : ByteArray} (hs : s.size ≤ maxLen) (ha : asc s.data.toList = true) : ∀ x ∈ [tx s], x = tx x.t ∧ x.t.size ≤ maxLen ∧ asc x.t.data.toList = true := by
  intro x hx; simp at hx; subst hx; exact ⟨rfl, hs, ha⟩
theorem nonempty {s : ByteArray} (h : 0 < s.size) : s.toList.isEmpty = false := by
  rw [ByteArray.toList_eq]
  cases hl : s.data.toList with
  | nil =>
    have h2 : s.data.toList.length = 0 := by rw [hl]; rfl
    rw [Array.length_toList] at h2
    have h3 : s.size = s.data.size := rfl
    omega
  | cons _ _ => rfl
theorem short_len {s : ByteArray} (hs : s.size ≤ 1000) : s.size ≤ maxLen := by unfold maxLen; omega
theorem intV_small {n : Int} (h : 0 ≤ n) (h2 : n ≤ 1000000) : intV n = sv 1 n 1 mt := by unfold intV; rw [if_neg (by omega)]
set_option maxRecDepth 100000 in
set_option maxHeartbeats 2000000 in
theorem ofText_LEN (A : Option Addr) (cap : Nat) (s : ByteArray) (w : World) (hv : VL w A [tx s]) (hs : s.size ≤ 1000) (ha : asc s.data.toList = true) :
    Calls Tryz.prog 109 #[.string nmLEN, .slice A 1 cap] w fun e w' => e = .returned (sv 1 s.size 1 mt) ∧ Fr w w' := by
  have Hv := Lib.hid hv; clear hv
  have Ha := Lib.hid (asc_ok (short_len hs) ha); clear ha
  unfold nmLEN
  go_enter Tryz.func109, Tryz.ntmps109
  go_wp2_with fail
  refine (texts_asc A cap [tx s] _ (Hv.out.fr (by repeat (first | (with_reducible exact Fr.refl _) | ((with_reducible refine Fr.set ?_ ?_ _); focus (simp; done)) | (with_reducible refine Fr.alloc ?_ _) | (with_reducible refine Fr.drew ?_) | (with_reducible refine Fr.step ?_ (by assumption))))) Ha.out).mono ?_
  rintro e w1 ⟨A', cap', rfl, hT, hf1⟩
  obtain ⟨g, rfl, hg, c0⟩ := hT.at (i := 0) (by simp)
  simp [tx] at c0
  have hlt1 := hf1.size
  simp at hlt1
  obtain ⟨hc1, hz1⟩ := hf1.cells
  simp at hc1 hz1
  have h01 : w.heap.size < w1.heap.size := by omega
  have h02 : w.heap.size < w1.heap.size + 1 := by omega
  unfold sv
  clear hT
  go_wp2_with fail
  refine (Int_any _ _).mono ?_
  rintro e w2 ⟨rfl, hf2⟩
  have hlt2 := hf2.size
  simp at hlt2
  obtain ⟨hc2, hz2⟩ := hf2.cells
  simp at hc2 hz2
  rw [intV_small (by omega) (by omega)]
  unfold sv
  go_wp2
  exact bodyPost_ret (v := sv 1 s.size 1 mt) (by simp [results, Tryz.results109, go_sem, sv, mt, *]) rfl ⟨rfl, (by repeat (first | (with_reducible exact Fr.refl _) | ((with_reducible refine Fr.set ?_ ?_ _); focus (simp; done)) | (with_reducible refine Fr.alloc ?_ _) | (with_reducible refine Fr.drew ?_) | (with_reducible refine Fr.step ?_ (by assumption))))⟩
def uniV (s : ByteArray) : Value := if h : 0 < s.size then sv 1 ((s[0]'h).toNat : Int) 1 mt else sv 4 0 0 valueE
set_option maxRecDepth 100000 in
set_option maxHeartbeats 2000000 in
theorem ofText_UNICODE (A : Option Addr) (cap : Nat) (s : ByteArray) (w : World) (hv : VL w A [tx s]) (hs : s.size ≤ 1000) (ha : asc s.data.toList = true) :
    Calls Tryz.prog 109 #[.string nmUNICODE, .slice A 1 cap] w fun e w' => e = .returned (uniV s) ∧ Fr w w' := by
  have Hv := Lib.hid hv; clear hv
  have Ha := Lib.hid (asc_ok (short_len hs) ha); clear ha
  unfold nmUNICODE
  go_enter Tryz.func109, Tryz.ntmps109
  go_wp2_with fail
  refine (texts_asc A cap [tx s] _ (Hv.out.fr (by repeat (first | (with_reducible exact Fr.refl _) | ((with_reducible refine Fr.set ?_ ?_ _); focus (simp; done)) | (with_reducible refine Fr.alloc ?_ _) | (with_reducible refine Fr.drew ?_) | (with_reducible refine Fr.step ?_ (by assumption))))) Ha.out).mono ?_
  rintro e w1 ⟨A', cap', rfl, hT, hf1⟩
  obtain ⟨g, rfl, hg, c0⟩ := hT.at (i := 0) (by simp)
  simp [tx] at c0
  have hlt1 := hf1.size
  simp at hlt1
  obtain ⟨hc1, hz1⟩ := hf1.cells
  simp at hc1 hz1
  have h01 : w.heap.size < w1.heap.size := by omega
  have h02 : w.heap.size < w1.heap.size + 1 := by omega
  unfold sv
  clear hT
  by_cases h0 : 0 < s.size
  · have hne : s.toList.isEmpty = false := nonempty h0
    have hb := byte_range (s[0]'h0)
    go_wp2_with fail
    refine (Int_any _ _).mono ?_
    rintro e w2 ⟨rfl, hf2⟩
    have hlt2 := hf2.size
    simp at hlt2
    obtain ⟨hc2, hz2⟩ := hf2.cells
    simp at hc2 hz2
    rw [intV_small (by omega) (by omega)]
    have hu : uniV s = sv 1 ((s[0]'h0).toNat : Int) 1 mt := by unfold uniV; rw [dif_pos h0]
    have Hu := Lib.hid hu; clear hu
    unfold sv
    go_wp2
    exact bodyPost_ret (v := sv 1 ((s[0]'h0).toNat : Int) 1 mt) (by simp [results, Tryz.results109, go_sem, sv, mt, *]) rfl ⟨by rw [Hu.out], (by repeat (first | (with_reducible exact Fr.refl _) | ((with_reducible refine Fr.set ?_ ?_ _); focus (simp; done)) | (with_reducible refine Fr.alloc ?_ _) | (with_reducible refine Fr.drew ?_) | (with_reducible refine Fr.step ?_ (by assumption))))⟩
  · have hs0 : s = ⟨#[]⟩ := by
      have : s.size = 0 := by omega
      cases s with | mk d => simp [ByteArray.size] at this; subst this; rfl
    subst hs0
    go_wp2_with fail
    refine (Err_any _ _).mono ?_
    rintro e w2 ⟨rfl, hf2⟩
    have hlt2 := hf2.size
    simp at hlt2
    obtain ⟨hc2, hz2⟩ := hf2.cells
    simp at hc2 hz2
    unfold sv
    go_wp2
    exact bodyPost_ret (v := sv 4 0 0 ⟨#[35, 86, 65, 76, 85, 69, 33]⟩) (by simp [results, Tryz.results109, go_sem, sv, mt, *]) rfl ⟨rfl, (by repeat (first | (with_reducible exact Fr.refl _) | ((with_reducible refine Fr.set ?_ ?_ _); focus (simp; done)) | (with_reducible refine Fr.alloc ?_ _) | (with_reducible refine Fr.drew ?_) | (with_reducible refine Fr.step ?_ (by assumption))))⟩
set_option maxRecDepth 100000 in
set_option maxHeartbeats 2000000 in
theorem CallText_LEN (A : Option Addr) (cap : Nat) (s : ByteArray) (w : World) (hv : VL w A [tx s]) (hs : s.size ≤ 1000) (ha : asc s.data.toList = true) :
    Calls Tryz.prog 45 #[.string nmLEN, .slice A 1 cap] w fun e w' => e = .returned (.tuple #[sv 1 s.size 1 mt, .bool true]) ∧ Fr w w' := by
  have Hv := Lib.hid hv; clear hv
  have Ha := Lib.hid ha; clear ha
  have Hf := Lib.hid (fun w hv => ofText_LEN A cap s w hv hs Ha.out)
  unfold nmLEN at *
  go_enter Tryz.func45, Tryz.ntmps45
  go_wp2_with fail
  refine (Hf.out _ (Hv.out.fr (by repeat (first | (with_reducible exact Fr.refl _) | ((with_reducible refine Fr.set ?_ ?_ _); focus (simp; done)) | (with_reducible refine Fr.alloc ?_ _) | (with_reducible refine Fr.drew ?_) | (with_reducible refine Fr.step ?_ (by assumption)))))).mono ?_
  rintro e w1 ⟨rfl, hf1⟩
  have hlt1 := hf1.size
  simp at hlt1
  obtain ⟨hc1, hz1⟩ := hf1.cells
  simp at hc1 hz1
  have h01 : w.heap.size < w1.heap.size := by omega
  unfold sv
  go_wp2
  exact bodyPost_ret (v := .tuple #[sv 1 s.size 1 mt, .bool true]) (by simp [results, Tryz.results45, go_sem, sv, mt, *]) rfl ⟨rfl, (by repeat (first | (with_reducible exact Fr.refl _) | ((with_reducible refine Fr.set ?_ ?_ _); focus (simp; done)) | (with_reducible refine Fr.alloc ?_ _) | (with_reducible refine Fr.drew ?_) | (with_reducible refine Fr.step ?_ (by assumption))))⟩
set_option maxRecDepth 100000 in
set_option maxHeartbeats 2000000 in
theorem CallText_UNICODE (A : Option Addr) (cap : Nat) (s : ByteArray) (w : World) (hv : VL w A [tx s]) (hs : s.size ≤ 1000) (ha : asc s.data.toList = true) :
    Calls Tryz.prog 45 #[.string nmUNICODE, .slice A 1 cap] w fun e w' => e = .returned (.tuple #[uniV s, .bool true]) ∧ Fr w w' := by
  have Hv := Lib.hid hv; clear hv
  have Ha := Lib.hid ha; clear ha
  have Hf := Lib.hid (fun w hv => ofText_UNICODE A cap s w hv hs Ha.out)
  obtain ⟨k, n, d, t, hvv⟩ : ∃ k n d t, uniV s = sv k n d t := by
    unfold uniV; split <;> exact ⟨_, _, _, _, rfl⟩
  have Hvv := Lib.hid hvv; clear hvv
  unfold nmUNICODE at *
  go_enter Tryz.func45, Tryz.ntmps45
  go_wp2_with fail
  refine (Hf.out _ (Hv.out.fr (by repeat (first | (with_reducible exact Fr.refl _) | ((with_reducible refine Fr.set ?_ ?_ _); focus (simp; done)) | (with_reducible refine Fr.alloc ?_ _) | (with_reducible refine Fr.drew ?_) | (with_reducible refine Fr.step ?_ (by assumption)))))).mono ?_
  rintro e w1 ⟨rfl, hf1⟩
  have hlt1 := hf1.size
  simp at hlt1
  obtain ⟨hc1, hz1⟩ := hf1.cells
  simp at hc1 hz1
  have h01 : w.heap.size < w1.heap.size := by omega
  rw [Hvv.out]
  unfold sv
  go_wp2
  exact bodyPost_ret (v := .tuple #[sv k n d t, .bool true]) (by simp [results, Tryz.results45, go_sem, sv, mt, *]) rfl ⟨by rw [Hvv.out], (by repeat (first | (with_reducible exact Fr.refl _) | ((with_reducible refine Fr.set ?_ ?_ _); focus (simp; done)) | (with_reducible refine Fr.alloc ?_ _) | (with_reducible refine Fr.drew ?_) | (with_reducible refine Fr.step ?_ (by assumption))))⟩
end Go.Proofs.YtcmpfcijockmhaaGreatDoor
