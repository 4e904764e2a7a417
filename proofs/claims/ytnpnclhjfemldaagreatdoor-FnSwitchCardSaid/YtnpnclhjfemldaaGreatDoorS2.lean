import Derived.Test.YtnpnclhjfemldaaGreatDoorA1
set_option linter.unusedSimpArgs false
set_option linter.unusedVariables false
namespace Go.Proofs.YtnpnclhjfemldaaGreatDoor
open Go.RowKit
def words : List (List UInt8) := [[101], [110, 97, 110], [105, 110, 102], [105, 110, 102, 105, 110, 105, 116, 121], [116, 114, 117, 101], [102, 97, 108, 115, 101], [97, 109], [112, 109], [97], [112]]
/-- Surely no number: two letters or more that spell nothing like one. -/
def letterB (s : ByteArray) (j : Nat) : Bool := decide (97 ≤ lowc (lowN s j)) && decide (lowc (lowN s j) ≤ 122)
def lettersB (s : ByteArray) : Bool := (List.range s.size).all (letterB s) && !((lowerS s).toList.isEmpty) && !(words.any fun m => (lowerS s).toList == m) && decide (2 ≤ s.size) && !(monthB (lowerS s))
theorem lettersB_letter {s : ByteArray} {k : Nat} (h : k < s.size) (hb : letterB s k = false) : lettersB s = false := by
  have : (List.range s.size).all (letterB s) = false := by
    rw [List.all_eq_false]; exact ⟨k, List.mem_range.2 h, by rw [hb]; simp⟩
  unfold lettersB; rw [this]; rfl
theorem lettersB_empty {s : ByteArray} (h : (lowerS s).toList.isEmpty = true) : lettersB s = false := by
  unfold lettersB; rw [h]; simp
theorem lettersB_word {s : ByteArray} {m : List UInt8} (hm : m ∈ words) (h : ((lowerS s).toList == m) = true) : lettersB s = false := by
  have : words.any (fun m => (lowerS s).toList == m) = true := by rw [List.any_eq_true]; exact ⟨m, hm, h⟩
  unfold lettersB; rw [this]; simp
theorem lettersB_short {s : ByteArray} (h : s.size < 2) : lettersB s = false := by
  have : decide (2 ≤ s.size) = false := by simp; omega
  unfold lettersB; rw [this]; simp
theorem lettersB_rest {s : ByteArray} (h1 : ∀ k, k < s.size → letterB s k = true) (h2 : (lowerS s).toList.isEmpty = false) (h3 : ∀ m ∈ words, ((lowerS s).toList == m) = false) (h4 : 2 ≤ s.size) : lettersB s = !(monthB (lowerS s)) := by
  have e1 : (List.range s.size).all (letterB s) = true := by rw [List.all_eq_true]; intro k hk; exact h1 k (List.mem_range.1 hk)
  have e3 : words.any (fun m => (lowerS s).toList == m) = false := by rw [List.any_eq_false]; intro m hm; rw [h3 m hm]; simp
  have e4 : decide (2 ≤ s.size) = true := by simpa using h4
  unfold lettersB; rw [e1, h2, e3, e4]; simp
def valueE : ByteArray := ⟨#[35, 86, 65, 76, 85, 69, 33]⟩
def otherV (s : ByteArray) : Value := if lettersB s = true then sv 4 0 0 valueE else sv 6 0 0 mt
theorem otherV_no {s : ByteArray} (h : lettersB s = false) : otherV s = sv 6 0 0 mt := by unfold otherV; rw [h]; rfl
theorem otherV_yes {s : ByteArray} (h : lettersB s = true) : otherV s = sv 4 0 0 valueE := by unfold otherV; rw [h]; rfl
theorem otherV_sv (s : ByteArray) : ∃ k t, otherV s = sv k 0 0 t ∧ k ≠ 1 := by
  unfold otherV
  split
  · exact ⟨4, _, rfl, by decide⟩
  · exact ⟨6, _, rfl, by decide⟩
set_option maxRecDepth 100000 in
set_option maxHeartbeats 2000000 in
theorem other_any (s : ByteArray) (w : World) (hs : s.size ≤ maxLen) :
    Calls Tryz.prog 207 #[.string s] w fun e w' => e = .returned (otherV s) ∧ Fr w w' := by
  have hs' := hs
  have Hs := Lib.hid hs; clear hs
  unfold maxLen at hs'
  go_enter Tryz.func207, Tryz.ntmps207
  go_wp2
  go_loopw [3] (fun i wr => ∃ k : Nat, k ≤ s.size ∧ i = .int .i64 k ∧ (∀ j, j < k → letterB s j = true) ∧ Fr (w.alloc (.cells #[.int .i64 0, .int .i64 0, .int .i64 0, .string mt, .slice none 0 0] 25)) wr) (fun i _ => s.size - (intOf i).toNat)
  case atStart => exact ⟨0, Nat.zero_le _, rfl, fun j hj => absurd hj (by omega), Fr.refl _⟩
  case round =>
    obtain ⟨k, hk, rfl, hall, hf⟩ := hrel
    have Hall := Lib.hid hall; clear hall
    obtain ⟨hc, hz⟩ := hf.cells
    have hlt1 : w.heap.size < wr.heap.size := by have := hf.size; simp at this; omega
    by_cases hlt : k < s.size
    · have hbk : (s[k].toNat : Int) = lowN s k := by
        unfold lowN
        rw [List.getD_eq_getElem?_getD, List.getElem?_eq_getElem (by rw [Array.length_toList]; exact hlt)]
        rfl
      have hL := Lib.hid (show letterB s k = (decide (97 ≤ lowc (s[k].toNat : Int)) && decide (lowc (s[k].toNat : Int) ≤ 122)) by unfold letterB; rw [hbk])
      have hF := Lib.hid (fun hb => otherV_no (lettersB_letter hlt hb))
      clear hbk
      go_wp2_with fail
      obtain ⟨r1, r2⟩ := byte_range s[k]
      refine (Lower_any _ _ r1 r2).mono ?_
      rintro e w1 ⟨rfl, rfl⟩
      generalize lowc (s[k].toNat : Int) = c at *
      by_cases c1 : c < 97
      · have hv := Lib.hid (hF.out (by rw [hL.out]; simp; omega))
        clear hL hF
        go_wp2_with fail
        refine (Doubt_any _).mono ?_
        rintro e w1 ⟨rfl, hf1⟩
        obtain ⟨hc1, hz1⟩ := hf1.cells
        unfold sv
        go_wp2
        exact bodyPost_ret (v := sv 6 0 0 mt) (by simp [results, Tryz.results207, go_sem, sv, mt, *]) rfl ⟨by rw [hv.out], (by repeat (first | (with_reducible exact Fr.refl _) | ((with_reducible refine Fr.set ?_ ?_ _); focus (simp; done)) | (with_reducible refine Fr.alloc ?_ _) | (with_reducible refine Fr.drew ?_) | (with_reducible refine Fr.step ?_ (by assumption))))⟩
      · by_cases c2 : 122 < c
        · have hv := Lib.hid (hF.out (by rw [hL.out]; simp; omega))
          clear hL hF
          go_wp2_with fail
          refine (Doubt_any _).mono ?_
          rintro e w1 ⟨rfl, hf1⟩
          obtain ⟨hc1, hz1⟩ := hf1.cells
          unfold sv
          go_wp2
          exact bodyPost_ret (v := sv 6 0 0 mt) (by simp [results, Tryz.results207, go_sem, sv, mt, *]) rfl ⟨by rw [hv.out], (by repeat (first | (with_reducible exact Fr.refl _) | ((with_reducible refine Fr.set ?_ ?_ _); focus (simp; done)) | (with_reducible refine Fr.alloc ?_ _) | (with_reducible refine Fr.drew ?_) | (with_reducible refine Fr.step ?_ (by assumption))))⟩
        · have hv := Lib.hid (show letterB s k = true by rw [hL.out]; simp; omega)
          clear hL hF
          go_wp2
          go_roundw
          case rel =>
            refine ⟨k + 1, by omega, by go_num, fun j hj => ?_, hf⟩
            by_cases e : j = k
            · subst e; exact hv.out
            · exact Hall.out j (by omega)
          case measure => simp [intOf]; omega
    · have hks : k = s.size := by omega
      subst hks
      clear hlt hk
      go_wp2_with fail
      refine (lower_any s _ Hs.out).mono ?_
      rintro e w1 ⟨rfl, hf1⟩
      obtain ⟨hc1, hz1⟩ := hf1.cells
      have hlt2 : w.heap.size < w1.heap.size := Nat.lt_of_lt_of_le hlt1 hf1.size
      have H0 := Lib.hid (@lettersB_empty s)
      have H1 := Lib.hid (fun (m : List UInt8) (hm : m ∈ words) (h : ((lowerS s).toList == m) = true) => lettersB_word hm h)
      have H2 := Lib.hid (@lettersB_short s)
      have H3 := Lib.hid (@lettersB_rest s Hall.out)
      have H4 := Lib.hid (show (lowerS s).size ≤ maxLen by rw [lowerS_size]; exact Hs.out)
      have H5 := Lib.hid (@otherV_no s)
      have H6 := Lib.hid (@otherV_yes s)
      by_cases e0 : (lowerS s).toList.isEmpty = true
      · have hv := Lib.hid (H5.out (H0.out e0))
        go_wp2_with fail
        refine (Doubt_any _).mono ?_
        rintro e w2 ⟨rfl, hf2⟩
        obtain ⟨hc2, hz2⟩ := hf2.cells
        unfold sv
        go_wp2
        exact bodyPost_ret (v := sv 6 0 0 mt) (by simp [results, Tryz.results207, go_sem, sv, mt, *]) rfl ⟨by rw [hv.out], (by repeat (first | (with_reducible exact Fr.refl _) | ((with_reducible refine Fr.set ?_ ?_ _); focus (simp; done)) | (with_reducible refine Fr.alloc ?_ _) | (with_reducible refine Fr.drew ?_) | (with_reducible refine Fr.step ?_ (by assumption))))⟩
      rw [Bool.not_eq_true] at e0
      by_cases e1 : ((lowerS s).toList == [101]) = true
      · have hv := Lib.hid (H5.out (H1.out [101] (by simp [words]) e1))
        go_wp2_with fail
        refine (Doubt_any _).mono ?_
        rintro e w2 ⟨rfl, hf2⟩
        obtain ⟨hc2, hz2⟩ := hf2.cells
        unfold sv
        go_wp2
        exact bodyPost_ret (v := sv 6 0 0 mt) (by simp [results, Tryz.results207, go_sem, sv, mt, *]) rfl ⟨by rw [hv.out], (by repeat (first | (with_reducible exact Fr.refl _) | ((with_reducible refine Fr.set ?_ ?_ _); focus (simp; done)) | (with_reducible refine Fr.alloc ?_ _) | (with_reducible refine Fr.drew ?_) | (with_reducible refine Fr.step ?_ (by assumption))))⟩
      rw [Bool.not_eq_true] at e1
      by_cases e2 : ((lowerS s).toList == [110, 97, 110]) = true
      · have hv := Lib.hid (H5.out (H1.out [110, 97, 110] (by simp [words]) e2))
        go_wp2_with fail
        refine (Doubt_any _).mono ?_
        rintro e w2 ⟨rfl, hf2⟩
        obtain ⟨hc2, hz2⟩ := hf2.cells
        unfold sv
        go_wp2
        exact bodyPost_ret (v := sv 6 0 0 mt) (by simp [results, Tryz.results207, go_sem, sv, mt, *]) rfl ⟨by rw [hv.out], (by repeat (first | (with_reducible exact Fr.refl _) | ((with_reducible refine Fr.set ?_ ?_ _); focus (simp; done)) | (with_reducible refine Fr.alloc ?_ _) | (with_reducible refine Fr.drew ?_) | (with_reducible refine Fr.step ?_ (by assumption))))⟩
      rw [Bool.not_eq_true] at e2
      by_cases e3 : ((lowerS s).toList == [105, 110, 102]) = true
      · have hv := Lib.hid (H5.out (H1.out [105, 110, 102] (by simp [words]) e3))
        go_wp2_with fail
        refine (Doubt_any _).mono ?_
        rintro e w2 ⟨rfl, hf2⟩
        obtain ⟨hc2, hz2⟩ := hf2.cells
        unfold sv
        go_wp2
        exact bodyPost_ret (v := sv 6 0 0 mt) (by simp [results, Tryz.results207, go_sem, sv, mt, *]) rfl ⟨by rw [hv.out], (by repeat (first | (with_reducible exact Fr.refl _) | ((with_reducible refine Fr.set ?_ ?_ _); focus (simp; done)) | (with_reducible refine Fr.alloc ?_ _) | (with_reducible refine Fr.drew ?_) | (with_reducible refine Fr.step ?_ (by assumption))))⟩
      rw [Bool.not_eq_true] at e3
      by_cases e4 : ((lowerS s).toList == [105, 110, 102, 105, 110, 105, 116, 121]) = true
      · have hv := Lib.hid (H5.out (H1.out [105, 110, 102, 105, 110, 105, 116, 121] (by simp [words]) e4))
        go_wp2_with fail
        refine (Doubt_any _).mono ?_
        rintro e w2 ⟨rfl, hf2⟩
        obtain ⟨hc2, hz2⟩ := hf2.cells
        unfold sv
        go_wp2
        exact bodyPost_ret (v := sv 6 0 0 mt) (by simp [results, Tryz.results207, go_sem, sv, mt, *]) rfl ⟨by rw [hv.out], (by repeat (first | (with_reducible exact Fr.refl _) | ((with_reducible refine Fr.set ?_ ?_ _); focus (simp; done)) | (with_reducible refine Fr.alloc ?_ _) | (with_reducible refine Fr.drew ?_) | (with_reducible refine Fr.step ?_ (by assumption))))⟩
      rw [Bool.not_eq_true] at e4
      by_cases e5 : ((lowerS s).toList == [116, 114, 117, 101]) = true
      · have hv := Lib.hid (H5.out (H1.out [116, 114, 117, 101] (by simp [words]) e5))
        go_wp2_with fail
        refine (Doubt_any _).mono ?_
        rintro e w2 ⟨rfl, hf2⟩
        obtain ⟨hc2, hz2⟩ := hf2.cells
        unfold sv
        go_wp2
        exact bodyPost_ret (v := sv 6 0 0 mt) (by simp [results, Tryz.results207, go_sem, sv, mt, *]) rfl ⟨by rw [hv.out], (by repeat (first | (with_reducible exact Fr.refl _) | ((with_reducible refine Fr.set ?_ ?_ _); focus (simp; done)) | (with_reducible refine Fr.alloc ?_ _) | (with_reducible refine Fr.drew ?_) | (with_reducible refine Fr.step ?_ (by assumption))))⟩
      rw [Bool.not_eq_true] at e5
      by_cases e6 : ((lowerS s).toList == [102, 97, 108, 115, 101]) = true
      · have hv := Lib.hid (H5.out (H1.out [102, 97, 108, 115, 101] (by simp [words]) e6))
        go_wp2_with fail
        refine (Doubt_any _).mono ?_
        rintro e w2 ⟨rfl, hf2⟩
        obtain ⟨hc2, hz2⟩ := hf2.cells
        unfold sv
        go_wp2
        exact bodyPost_ret (v := sv 6 0 0 mt) (by simp [results, Tryz.results207, go_sem, sv, mt, *]) rfl ⟨by rw [hv.out], (by repeat (first | (with_reducible exact Fr.refl _) | ((with_reducible refine Fr.set ?_ ?_ _); focus (simp; done)) | (with_reducible refine Fr.alloc ?_ _) | (with_reducible refine Fr.drew ?_) | (with_reducible refine Fr.step ?_ (by assumption))))⟩
      rw [Bool.not_eq_true] at e6
      by_cases e7 : ((lowerS s).toList == [97, 109]) = true
      · have hv := Lib.hid (H5.out (H1.out [97, 109] (by simp [words]) e7))
        go_wp2_with fail
        refine (Doubt_any _).mono ?_
        rintro e w2 ⟨rfl, hf2⟩
        obtain ⟨hc2, hz2⟩ := hf2.cells
        unfold sv
        go_wp2
        exact bodyPost_ret (v := sv 6 0 0 mt) (by simp [results, Tryz.results207, go_sem, sv, mt, *]) rfl ⟨by rw [hv.out], (by repeat (first | (with_reducible exact Fr.refl _) | ((with_reducible refine Fr.set ?_ ?_ _); focus (simp; done)) | (with_reducible refine Fr.alloc ?_ _) | (with_reducible refine Fr.drew ?_) | (with_reducible refine Fr.step ?_ (by assumption))))⟩
      rw [Bool.not_eq_true] at e7
      by_cases e8 : ((lowerS s).toList == [112, 109]) = true
      · have hv := Lib.hid (H5.out (H1.out [112, 109] (by simp [words]) e8))
        go_wp2_with fail
        refine (Doubt_any _).mono ?_
        rintro e w2 ⟨rfl, hf2⟩
        obtain ⟨hc2, hz2⟩ := hf2.cells
        unfold sv
        go_wp2
        exact bodyPost_ret (v := sv 6 0 0 mt) (by simp [results, Tryz.results207, go_sem, sv, mt, *]) rfl ⟨by rw [hv.out], (by repeat (first | (with_reducible exact Fr.refl _) | ((with_reducible refine Fr.set ?_ ?_ _); focus (simp; done)) | (with_reducible refine Fr.alloc ?_ _) | (with_reducible refine Fr.drew ?_) | (with_reducible refine Fr.step ?_ (by assumption))))⟩
      rw [Bool.not_eq_true] at e8
      by_cases e9 : ((lowerS s).toList == [97]) = true
      · have hv := Lib.hid (H5.out (H1.out [97] (by simp [words]) e9))
        go_wp2_with fail
        refine (Doubt_any _).mono ?_
        rintro e w2 ⟨rfl, hf2⟩
        obtain ⟨hc2, hz2⟩ := hf2.cells
        unfold sv
        go_wp2
        exact bodyPost_ret (v := sv 6 0 0 mt) (by simp [results, Tryz.results207, go_sem, sv, mt, *]) rfl ⟨by rw [hv.out], (by repeat (first | (with_reducible exact Fr.refl _) | ((with_reducible refine Fr.set ?_ ?_ _); focus (simp; done)) | (with_reducible refine Fr.alloc ?_ _) | (with_reducible refine Fr.drew ?_) | (with_reducible refine Fr.step ?_ (by assumption))))⟩
      rw [Bool.not_eq_true] at e9
      by_cases e10 : ((lowerS s).toList == [112]) = true
      · have hv := Lib.hid (H5.out (H1.out [112] (by simp [words]) e10))
        go_wp2_with fail
        refine (Doubt_any _).mono ?_
        rintro e w2 ⟨rfl, hf2⟩
        obtain ⟨hc2, hz2⟩ := hf2.cells
        unfold sv
        go_wp2
        exact bodyPost_ret (v := sv 6 0 0 mt) (by simp [results, Tryz.results207, go_sem, sv, mt, *]) rfl ⟨by rw [hv.out], (by repeat (first | (with_reducible exact Fr.refl _) | ((with_reducible refine Fr.set ?_ ?_ _); focus (simp; done)) | (with_reducible refine Fr.alloc ?_ _) | (with_reducible refine Fr.drew ?_) | (with_reducible refine Fr.step ?_ (by assumption))))⟩
      rw [Bool.not_eq_true] at e10
      have H7 := Lib.hid (H3.out e0 (by simp only [words, List.forall_mem_cons]; exact ⟨e1, e2, e3, e4, e5, e6, e7, e8, e9, e10, by simp⟩))
      by_cases hsz : s.size < 2
      · have hv := Lib.hid (H5.out (H2.out hsz))
        go_wp2_with fail
        refine (Doubt_any _).mono ?_
        rintro e w2 ⟨rfl, hf2⟩
        obtain ⟨hc2, hz2⟩ := hf2.cells
        unfold sv
        go_wp2
        exact bodyPost_ret (v := sv 6 0 0 mt) (by simp [results, Tryz.results207, go_sem, sv, mt, *]) rfl ⟨by rw [hv.out], (by repeat (first | (with_reducible exact Fr.refl _) | ((with_reducible refine Fr.set ?_ ?_ _); focus (simp; done)) | (with_reducible refine Fr.alloc ?_ _) | (with_reducible refine Fr.drew ?_) | (with_reducible refine Fr.step ?_ (by assumption))))⟩
      · have hsz2 : 2 ≤ s.size := by omega
        clear hsz
        have H8 := Lib.hid (H7.out hsz2)
        go_wp2_with fail
        refine (lower_any s _ Hs.out).mono ?_
        rintro e w2 ⟨rfl, hf2⟩
        obtain ⟨hc2, hz2⟩ := hf2.cells
        have hlt3 : w.heap.size < w2.heap.size := Nat.lt_of_lt_of_le hlt2 hf2.size
        go_wp2_with fail
        refine (month_any _ _ H4.out).mono ?_
        rintro e w3 ⟨rfl, rfl⟩
        cases hmb : monthB (lowerS s)
        · have hv := Lib.hid (H6.out (by rw [H8.out, hmb]; rfl))
          go_wp2_with fail
          refine (Err_any _ _).mono ?_
          rintro e w4 ⟨rfl, hf4⟩
          obtain ⟨hc4, hz4⟩ := hf4.cells
          unfold sv
          go_wp2
          exact bodyPost_ret (v := sv 4 0 0 valueE) (by simp [results, Tryz.results207, go_sem, sv, mt, valueE, *]) rfl ⟨by rw [hv.out], (by repeat (first | (with_reducible exact Fr.refl _) | ((with_reducible refine Fr.set ?_ ?_ _); focus (simp; done)) | (with_reducible refine Fr.alloc ?_ _) | (with_reducible refine Fr.drew ?_) | (with_reducible refine Fr.step ?_ (by assumption))))⟩
        · have hv := Lib.hid (H5.out (by rw [H8.out, hmb]; rfl))
          go_wp2_with fail
          refine (Doubt_any _).mono ?_
          rintro e w4 ⟨rfl, hf4⟩
          obtain ⟨hc4, hz4⟩ := hf4.cells
          unfold sv
          go_wp2
          exact bodyPost_ret (v := sv 6 0 0 mt) (by simp [results, Tryz.results207, go_sem, sv, mt, *]) rfl ⟨by rw [hv.out], (by repeat (first | (with_reducible exact Fr.refl _) | ((with_reducible refine Fr.set ?_ ?_ _); focus (simp; done)) | (with_reducible refine Fr.alloc ?_ _) | (with_reducible refine Fr.drew ?_) | (with_reducible refine Fr.step ?_ (by assumption))))⟩
end Go.Proofs.YtnpnclhjfemldaaGreatDoor
