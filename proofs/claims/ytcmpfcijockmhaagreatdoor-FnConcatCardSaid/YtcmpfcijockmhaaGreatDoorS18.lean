import Derived.Test.YtcmpfcijockmhaaGreatDoorS17
set_option linter.unusedSimpArgs false
set_option linter.unusedVariables false
namespace Go.Proofs.YtcmpfcijockmhaaGreatDoor
open Go.RowKit
set_option maxRecDepth 100000 in
set_option maxHeartbeats 400000 in
theorem doubtful_yes (n d : Int) (t : ByteArray) (w : World) :
    Calls Tryz.prog 18 #[sv 6 n d t] w fun e w' => e = .returned (.bool true) ∧ Fr w w' := by
  unfold sv
  go_enter Tryz.func18, Tryz.ntmps18
  go_wp2_with fail
  refine (Flat_flat _ 1 [⟨6, n, d, t⟩] _ (VL.new _ ⟨6, n, d, t⟩ _ _ (by simp)) (fun y hy => by simp at hy; subst hy; simp)).mono ?_
  rintro e w1 ⟨A', cap', rfl, hV, hf1⟩
  obtain ⟨g, rfl, hg, c0, c1, c2, c3, c4⟩ := hV.at (i := 0) (by simp)
  simp at c0
  clear hV c1 c2 c3 c4
  go_wp2
  go_loop [4] (fun i => i = .int .i64 0) (fun i => 0)
  case atStart => rfl
  case round =>
    subst hrel
    go_wp2
    go_ret
    exact ⟨rfl, (by repeat (first | (with_reducible exact Fr.refl _) | ((with_reducible refine Fr.set ?_ ?_ _); focus (simp; done)) | (with_reducible refine Fr.alloc ?_ _) | (with_reducible refine Fr.drew ?_) | (with_reducible refine Fr.step ?_ (by assumption))))⟩
set_option maxRecDepth 100000 in
set_option maxHeartbeats 400000 in
theorem doubtful_no (k n d : Int) (t : ByteArray) (w : World) (h5 : k ≠ 5) (h6 : k ≠ 6) :
    Calls Tryz.prog 18 #[sv k n d t] w fun e w' => e = .returned (.bool false) ∧ Fr w w' := by
  unfold sv
  have H5 := Lib.hid h5; clear h5
  go_enter Tryz.func18, Tryz.ntmps18
  go_wp2_with fail
  refine (Flat_flat _ 1 [⟨k, n, d, t⟩] _ (VL.new _ ⟨k, n, d, t⟩ _ _ (by simp)) (fun y hy => by simp at hy; subst hy; exact H5.out)).mono ?_
  rintro e w1 ⟨A', cap', rfl, hV, hf1⟩
  obtain ⟨g, rfl, hg, c0, c1, c2, c3, c4⟩ := hV.at (i := 0) (by simp)
  simp at c0
  clear hV c1 c2 c3 c4
  go_wp2
  go_loop [4] (fun i => i = .int .i64 0 ∨ i = .int .i64 1) (fun i => 1 - (intOf i).toNat)
  case atStart => exact .inl rfl
  case round =>
    obtain rfl | rfl := hrel
    · go_wp2
      go_round
      case rel => exact .inr rfl
      case measure => simp [intOf]
    · go_wp2
      go_ret
      exact ⟨rfl, (by repeat (first | (with_reducible exact Fr.refl _) | ((with_reducible refine Fr.set ?_ ?_ _); focus (simp; done)) | (with_reducible refine Fr.alloc ?_ _) | (with_reducible refine Fr.drew ?_) | (with_reducible refine Fr.step ?_ (by assumption))))⟩
set_option maxRecDepth 100000 in
set_option maxHeartbeats 400000 in
theorem doubtful_table (r : Nat) (c' : Nat) (A : Option Addr) (cap : Nat) (l : List SVal) (w : World) (hv : VL w A l) (hk : ∀ x ∈ l, x.k ≠ 5 ∧ x.k ≠ 6) (hl0 : 0 < l.length)
    (hr : w.cell? ⟨r, 0, none⟩ = some (.slice A l.length cap)) (hrl : r < w.heap.size) :
    Calls Tryz.prog 18 #[.agg #[.int .i64 5, .int .i64 0, .int .i64 0, .string mt, .slice (some ⟨r, 0, none⟩) 1 c']] w fun e w' => e = .returned (.bool false) ∧ Fr w w' := by
  have Hv := Lib.hid hv; clear hv
  have HF := Lib.hid hk; clear hk
  have Hl0 := Lib.hid hl0; clear hl0
  go_enter Tryz.func18, Tryz.ntmps18
  go_wp2_with fail
  refine (Flat_table _ r 1 c' A cap l _ (Hv.out.fr (by repeat (first | (with_reducible exact Fr.refl _) | ((with_reducible refine Fr.set ?_ ?_ _); focus (simp; done)) | (with_reducible refine Fr.alloc ?_ _) | (with_reducible refine Fr.drew ?_) | (with_reducible refine Fr.step ?_ (by assumption))))) (fun x hx => (HF.out x hx).1) Hl0.out (by simp [go_sem]) (by simp [go_sem]) (by simp [go_sem, hr, hrl]) (by simp) (by simp; omega)).mono ?_
  rintro e w1 ⟨A', cap', rfl, hV, hf1⟩
  have HV := Lib.hid hV; clear hV
  have hl := HV.out.1
  go_wp2
  go_loop [4] (fun i => ∃ k : Nat, k ≤ l.length ∧ i = .int .i64 k) (fun i => l.length - (intOf i).toNat)
  case atStart => exact ⟨0, Nat.zero_le _, rfl⟩
  case round =>
    obtain ⟨k, hk, rfl⟩ := hrel
    by_cases hlt : k < l.length
    · obtain ⟨g, rfl, hg, c0, c1, c2, c3, c4⟩ := HV.out.at hlt
      have hH : l[k].k ≠ 6 := (HF.out l[k] (List.getElem_mem hlt)).2
      generalize hx : l[k] = x at *
      go_wp2
      go_round
      case rel => exact ⟨k + 1, by omega, by simp⟩
      case measure => simp [intOf]; omega
    · go_wp2
      go_ret
      exact ⟨rfl, (by repeat (first | (with_reducible exact Fr.refl _) | ((with_reducible refine Fr.set ?_ ?_ _); focus (simp; done)) | (with_reducible refine Fr.alloc ?_ _) | (with_reducible refine Fr.drew ?_) | (with_reducible refine Fr.step ?_ (by assumption))))⟩
set_option maxRecDepth 100000 in
set_option maxHeartbeats 400000 in
theorem Table_any (A : Option Addr) (n c : Nat) (w : World) :
    Calls Tryz.prog 19 #[.slice A n c] w fun e w' => e = .returned (.agg #[.int .i64 5, .int .i64 0, .int .i64 0, .string mt, .slice A n c]) ∧ Fr w w' := by
  go_enter Tryz.func19, Tryz.ntmps19
  go_wp2
  exact bodyPost_ret (v := .agg #[.int .i64 5, .int .i64 0, .int .i64 0, .string mt, .slice A n c]) (by simp [results, Tryz.results19, go_sem, sv, mt, *]) rfl ⟨rfl, (by repeat (first | (with_reducible exact Fr.refl _) | ((with_reducible refine Fr.set ?_ ?_ _); focus (simp; done)) | (with_reducible refine Fr.alloc ?_ _) | (with_reducible refine Fr.drew ?_) | (with_reducible refine Fr.step ?_ (by assumption))))⟩
set_option maxRecDepth 100000 in
set_option maxHeartbeats 400000 in
theorem shortTexts_yes (A : Option Addr) (cap : Nat) (l : List ByteArray) (w : World) (hv : TL w A l) (hs : ∀ x ∈ l, x.size ≤ 1000) :
    Calls Tryz.prog 7 #[.slice A l.length cap] w fun e w' => e = .returned (.bool true) ∧ w = w' := by
  have HV := Lib.hid hv; clear hv
  have HF := Lib.hid hs; clear hs
  have hl := HV.out.1
  go_enter Tryz.func7, Tryz.ntmps7
  go_wp2
  go_loop [3] (fun i => ∃ k : Nat, k ≤ l.length ∧ i = .int .i64 k) (fun i => l.length - (intOf i).toNat)
  case atStart => exact ⟨0, Nat.zero_le _, rfl⟩
  case round =>
    obtain ⟨k, hk, rfl⟩ := hrel
    by_cases hlt : k < l.length
    · obtain ⟨g, rfl, hg, c0⟩ := HV.out.at hlt
      have hH : l[k].size ≤ 1000 := HF.out l[k] (List.getElem_mem hlt)
      generalize hx : l[k] = x at *
      go_wp2
      go_round
      case rel => exact ⟨k + 1, by omega, by simp⟩
      case measure => simp [intOf]; omega
    · go_wp2
      go_ret
      exact ⟨rfl, rfl⟩
set_option maxRecDepth 100000 in
set_option maxHeartbeats 400000 in
theorem shortTexts_no (A : Option Addr) (cap : Nat) (l : List ByteArray) (w : World) (hv : TL w A l) (hs : ∃ i, ∃ h : i < l.length, 1000 < l[i].size) :
    Calls Tryz.prog 7 #[.slice A l.length cap] w fun e w' => e = .returned (.bool false) ∧ w = w' := by
  have HV := Lib.hid hv; clear hv
  obtain ⟨i0, hi0, hbig⟩ := hs
  have HB := Lib.hid hbig; clear hbig
  have hl := HV.out.1
  go_enter Tryz.func7, Tryz.ntmps7
  go_wp2
  go_loop [3] (fun i => ∃ k : Nat, k ≤ i0 ∧ i = .int .i64 k) (fun i => l.length - (intOf i).toNat)
  case atStart => exact ⟨0, Nat.zero_le _, rfl⟩
  case round =>
    obtain ⟨k, hk, rfl⟩ := hrel
    have hlt : k < l.length := by omega
    obtain ⟨g, rfl, hg, c0⟩ := HV.out.at hlt
    by_cases hH : 1000 < l[k].size
    · generalize hx : l[k] = x at *
      go_wp2
      go_ret
      exact ⟨rfl, rfl⟩
    · have hne : k ≠ i0 := by
        intro e; subst e; exact hH HB.out
      generalize hx : l[k] = x at *
      go_wp2
      go_round
      case rel => exact ⟨k + 1, by omega, by simp⟩
      case measure => simp [intOf]; omega
end Go.Proofs.YtcmpfcijockmhaaGreatDoor
