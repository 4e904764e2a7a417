import Derived.Test.YtnpnclhjfemldaaGreatDoorS6
import Derived.Deep.RegionWith
set_option linter.unusedSimpArgs false
set_option linter.unusedVariables false
namespace Go.Proofs.YtnpnclhjfemldaaGreatDoor
open Go.RowKit
theorem sameB_no (t : ByteArray) : sameB 6 0 0 mt 4 0 0 t = false := rfl
theorem sameB_yes (t : ByteArray) : sameB 4 0 0 t 4 0 0 t = true := by simp [sameB]
set_option maxRecDepth 100000 in
set_option maxHeartbeats 1000000 in
theorem letters_any (s : ByteArray) (w : World) (hs : s.size ≤ maxLen) :
    Calls Tryz.prog 141 #[.string s] w fun e w' => e = .returned (.bool (lettersB s)) ∧ Fr w w' := by
  have Hs := Lib.hid hs; clear hs
  cases hb : lettersB s
  · have H := Lib.hid (otherV_no hb)
    go_enter Tryz.func141, Tryz.ntmps141
    go_wp2_with fail
    refine (other_any s _ Hs.out).mono ?_
    rintro e w1 ⟨rfl, hf1⟩
    rw [H.out]
    go_wp2_with fail
    refine (Err_any _ _).mono ?_
    rintro e w2 ⟨rfl, hf2⟩
    go_wp2_with fail
    refine (Same_any _ _ _ _ _ _ _ _ _).mono ?_
    rintro e w3 ⟨rfl, hf3⟩
    rw [sameB_no]
    go_wp2
    go_ret
    exact ⟨rfl, (by repeat (first | (with_reducible exact Fr.refl _) | ((with_reducible refine Fr.set ?_ ?_ _); focus (simp; done)) | (with_reducible refine Fr.alloc ?_ _) | (with_reducible refine Fr.drew ?_) | (with_reducible refine Fr.step ?_ (by assumption))))⟩
  · have H := Lib.hid (otherV_yes hb)
    go_enter Tryz.func141, Tryz.ntmps141
    go_wp2_with fail
    refine (other_any s _ Hs.out).mono ?_
    rintro e w1 ⟨rfl, hf1⟩
    rw [H.out]
    go_wp2_with fail
    refine (Err_any _ _).mono ?_
    rintro e w2 ⟨rfl, hf2⟩
    go_wp2_with fail
    refine (Same_any _ _ _ _ _ _ _ _ _).mono ?_
    rintro e w3 ⟨rfl, hf3⟩
    rw [show (⟨#[35, 86, 65, 76, 85, 69, 33]⟩ : ByteArray) = valueE from rfl, sameB_yes]
    go_wp2
    go_ret
    exact ⟨rfl, (by repeat (first | (with_reducible exact Fr.refl _) | ((with_reducible refine Fr.set ?_ ?_ _); focus (simp; done)) | (with_reducible refine Fr.alloc ?_ _) | (with_reducible refine Fr.drew ?_) | (with_reducible refine Fr.step ?_ (by assumption))))⟩
theorem isWhole_yes (k n d : Int) (t : ByteArray) (w : World) (h : (k == 1 && d == 1) = true) :
    Calls Tryz.prog 149 #[sv k n d t] w fun e w' => e = .returned (.bool true) ∧ Fr w w' := by rw [← h]; exact isWhole_any k n d t w
theorem isWhole_no (k n d : Int) (t : ByteArray) (w : World) (h : (k == 1 && d == 1) = false) :
    Calls Tryz.prog 149 #[sv k n d t] w fun e w' => e = .returned (.bool false) ∧ Fr w w' := by rw [← h]; exact isWhole_any k n d t w
theorem letters_yes (s : ByteArray) (w : World) (hs : s.size ≤ maxLen) (h : lettersB s = true) :
    Calls Tryz.prog 141 #[.string s] w fun e w' => e = .returned (.bool true) ∧ Fr w w' := by rw [← h]; exact letters_any s w hs
theorem letters_no (s : ByteArray) (w : World) (hs : s.size ≤ maxLen) (h : lettersB s = false) :
    Calls Tryz.prog 141 #[.string s] w fun e w' => e = .returned (.bool false) ∧ Fr w w' := by rw [← h]; exact letters_any s w hs
set_option maxRecDepth 100000 in
set_option maxHeartbeats 1000000 in
theorem numeric_number (k n d : Int) (t : ByteArray) (w : World) (hk : k = 1 ∨ k = 3) :
    Calls Tryz.prog 123 #[sv k n d t] w fun e w' => e = .returned (.bool true) ∧ Fr w w' := by
  unfold sv
  rcases hk with rfl | rfl
  · go_enter Tryz.func123, Tryz.ntmps123
    go_wp2
    go_ret
    exact ⟨rfl, (by repeat (first | (with_reducible exact Fr.refl _) | ((with_reducible refine Fr.set ?_ ?_ _); focus (simp; done)) | (with_reducible refine Fr.alloc ?_ _) | (with_reducible refine Fr.drew ?_) | (with_reducible refine Fr.step ?_ (by assumption))))⟩
  · go_enter Tryz.func123, Tryz.ntmps123
    go_wp2
    go_ret
    exact ⟨rfl, (by repeat (first | (with_reducible exact Fr.refl _) | ((with_reducible refine Fr.set ?_ ?_ _); focus (simp; done)) | (with_reducible refine Fr.alloc ?_ _) | (with_reducible refine Fr.drew ?_) | (with_reducible refine Fr.step ?_ (by assumption))))⟩
set_option maxRecDepth 100000 in
set_option maxHeartbeats 1000000 in
theorem numeric_none (k n d : Int) (t : ByteArray) (w : World) (hk : (k == 1) = false) (hk2 : (k == 2) = false) (hk3 : (k == 3) = false) :
    Calls Tryz.prog 123 #[sv k n d t] w fun e w' => e = .returned (.bool false) ∧ Fr w w' := by
  unfold sv
  go_enter Tryz.func123, Tryz.ntmps123
  go_wp2
  go_ret
  exact ⟨rfl, (by repeat (first | (with_reducible exact Fr.refl _) | ((with_reducible refine Fr.set ?_ ?_ _); focus (simp; done)) | (with_reducible refine Fr.alloc ?_ _) | (with_reducible refine Fr.drew ?_) | (with_reducible refine Fr.step ?_ (by assumption))))⟩
set_option maxRecDepth 100000 in
set_option maxHeartbeats 1000000 in
theorem numeric_text (n d : Int) (t : ByteArray) (w : World) (hs : t.size ≤ maxLen) :
    Calls Tryz.prog 123 #[sv 2 n d t] w (SomeB w) := by
  unfold sv
  have Hs := Lib.hid hs; clear hs
  go_enter Tryz.func123, Tryz.ntmps123
  go_wp2_with fail
  refine (Read_any t _ Hs.out).mono ?_
  rintro e w1 ⟨k1, n1, d1, t1, rfl, hb1, hf1⟩
  have Hb := Lib.hid hb1; clear hb1
  obtain ⟨hc1, hz1⟩ := hf1.cells
  have hlt1 : w.heap.size < w1.heap.size := by have := hf1.size; simp at this; omega
  unfold sv
  go_wp2_with fail
  cases hL : lettersB t
  · have HL := Lib.hid hL; clear hL
    cases hW : (k1 == 1 && d1 == 1)
    · have HW := Lib.hid hW; clear hW
      refine wp_region_any (by kernel_rfl) ?_
      change wpAny _ _ _ _ _ _ _ (World.drew _)
      refine wpAny_ready (rs := [0]) (by kernel_rfl) (by simp) ?_; refine AllReady.cons rfl (fun K hK => ?_) AllReady.nil; go_simp; refine hK _ _ ?_; clear hK K
      refine wpAny_ready (rs := [1]) (by kernel_rfl) (by simp) ?_; refine AllReady.cons rfl (fun K hK => ?_) AllReady.nil; go_simp; refine hK _ _ ?_; clear hK K
      refine wpAny_ready (rs := [2]) (by kernel_rfl) (by simp) ?_; refine AllReady.cons rfl (fun K hK => ?_) AllReady.nil; go_simp
      go_wp2_with (go_at_call 141; refine (letters_no t _ Hs.out HL.out).mono ?_; rintro e w2 ⟨rfl, hf2⟩)
      obtain ⟨hc2, hz2⟩ := hf2.cells
      have hlt2 : w1.heap.size < w2.heap.size := by have := hf2.size; simp at this; omega
      have hlt3 : w.heap.size < w2.heap.size := Nat.lt_trans hlt1 hlt2
      refine wpAny_ready (rs := [3]) (by kernel_rfl) (by simp) ?_; refine AllReady.cons rfl (fun K hK => ?_) AllReady.nil; go_simp; refine hK _ _ ?_; clear hK K
      refine wpAny_ready (rs := [4]) (by kernel_rfl) (by simp) ?_; refine AllReady.cons rfl (fun K hK => ?_) AllReady.nil; go_simp; refine hK _ _ ?_; clear hK K
      refine wpAny_ready (rs := [5]) (by kernel_rfl) (by simp) ?_; refine AllReady.cons rfl (fun K hK => ?_) AllReady.nil; go_simp
      go_wp2_with (go_at_call 149; refine (isWhole_no k1 n1 d1 t1 _ HW.out).mono ?_; rintro e w3 ⟨rfl, hf3⟩)
      refine wpAny_ready (rs := [6]) (by kernel_rfl) (by simp) ?_; refine AllReady.cons rfl (fun K hK => ?_) AllReady.nil; go_simp; refine hK _ _ ?_; clear hK K
      refine wpAny_take (i := 7) (v := undef) rfl (by kernel_rfl) (by kernel_rfl) (by kernel_rfl) (fun _ _ _ h => h) (Or.inr ⟨by rfl, rfl⟩) ?_
      refine wpAny_take (i := 8) (v := undef) rfl (by kernel_rfl) (by kernel_rfl) (by kernel_rfl) (fun _ _ _ h => h) (Or.inr ⟨by rfl, rfl⟩) ?_
      refine wpAny_take (i := 9) (v := undef) rfl (by kernel_rfl) (by kernel_rfl) (by kernel_rfl) (fun _ _ _ h => h) (Or.inr ⟨by rfl, rfl⟩) ?_
      refine wpAny_take (i := 10) (v := undef) rfl (by kernel_rfl) (by kernel_rfl) (by kernel_rfl) (fun _ _ _ h => h) (Or.inr ⟨by rfl, rfl⟩) ?_
      refine wpAny_take (i := 11) (v := undef) rfl (by kernel_rfl) (by kernel_rfl) (by kernel_rfl) (fun _ _ _ h => h) (Or.inr ⟨by rfl, rfl⟩) ?_
      refine wpAny_ready (rs := [12]) (by kernel_rfl) (by simp) ?_; refine AllReady.cons rfl (fun K hK => ?_) AllReady.nil; go_simp; refine hK _ _ ?_; clear hK K
      refine wpAny_ready (rs := [13]) (by kernel_rfl) (by simp) ?_; refine AllReady.cons rfl (fun K hK => ?_) AllReady.nil; go_simp; refine hK _ _ ?_; clear hK K
      refine wpAny_take (i := 14) (v := undef) rfl (by kernel_rfl) (by kernel_rfl) (by kernel_rfl) (fun _ _ _ h => h) (Or.inr ⟨by rfl, rfl⟩) ?_
      refine wpAny_take (i := 15) (v := undef) rfl (by kernel_rfl) (by kernel_rfl) (by kernel_rfl) (fun _ _ _ h => h) (Or.inr ⟨by rfl, rfl⟩) ?_
      refine wpAny_take (i := 16) (v := undef) rfl (by kernel_rfl) (by kernel_rfl) (by kernel_rfl) (fun _ _ _ h => h) (Or.inr ⟨by rfl, rfl⟩) ?_
      refine wpAny_take (i := 17) (v := undef) rfl (by kernel_rfl) (by kernel_rfl) (by kernel_rfl) (fun _ _ _ h => h) (Or.inr ⟨by rfl, rfl⟩) ?_
      refine wpAny_ready (rs := [18]) (by kernel_rfl) (by simp) ?_; refine AllReady.cons rfl (fun K hK => ?_) AllReady.nil; go_simp; refine hK _ _ ?_; clear hK K
      refine wpAny_ready (rs := [19]) (by kernel_rfl) (by simp) ?_; refine AllReady.cons rfl (fun K hK => ?_) AllReady.nil; go_simp; refine hK _ _ ?_; clear hK K
      refine wpAny_ready (rs := [20]) (by kernel_rfl) (by simp) ?_; refine AllReady.cons rfl (fun K hK => ?_) AllReady.nil; go_simp; refine hK _ _ ?_; clear hK K
      refine wpAny_done (by kernel_rfl) ?_ _
      go_wp2
      go_ret
      exact ⟨_, rfl, (by repeat (first | (with_reducible exact Fr.refl _) | ((with_reducible refine Fr.set ?_ ?_ _); focus (simp; done)) | (with_reducible refine Fr.alloc ?_ _) | (with_reducible refine Fr.drew ?_) | (with_reducible refine Fr.step ?_ (by assumption))))⟩
    · have HW := Lib.hid hW; clear hW
      obtain ⟨e1, e2⟩ : k1 = 1 ∧ d1 = 1 := by have := HW.out; simpa using this
      subst e1; subst e2
      obtain ⟨hn0, hn1⟩ := Hb.out rfl
      refine wp_region_any (by kernel_rfl) ?_
      change wpAny _ _ _ _ _ _ _ (World.drew _)
      refine wpAny_ready (rs := [0]) (by kernel_rfl) (by simp) ?_; refine AllReady.cons rfl (fun K hK => ?_) AllReady.nil; go_simp; refine hK _ _ ?_; clear hK K
      refine wpAny_ready (rs := [1]) (by kernel_rfl) (by simp) ?_; refine AllReady.cons rfl (fun K hK => ?_) AllReady.nil; go_simp; refine hK _ _ ?_; clear hK K
      refine wpAny_ready (rs := [2]) (by kernel_rfl) (by simp) ?_; refine AllReady.cons rfl (fun K hK => ?_) AllReady.nil; go_simp
      go_wp2_with (go_at_call 141; refine (letters_no t _ Hs.out HL.out).mono ?_; rintro e w2 ⟨rfl, hf2⟩)
      obtain ⟨hc2, hz2⟩ := hf2.cells
      have hlt2 : w1.heap.size < w2.heap.size := by have := hf2.size; simp at this; omega
      have hlt3 : w.heap.size < w2.heap.size := Nat.lt_trans hlt1 hlt2
      refine wpAny_ready (rs := [3]) (by kernel_rfl) (by simp) ?_; refine AllReady.cons rfl (fun K hK => ?_) AllReady.nil; go_simp; refine hK _ _ ?_; clear hK K
      refine wpAny_ready (rs := [4]) (by kernel_rfl) (by simp) ?_; refine AllReady.cons rfl (fun K hK => ?_) AllReady.nil; go_simp; refine hK _ _ ?_; clear hK K
      refine wpAny_ready (rs := [5]) (by kernel_rfl) (by simp) ?_; refine AllReady.cons rfl (fun K hK => ?_) AllReady.nil; go_simp
      go_wp2_with (go_at_call 149; refine (isWhole_yes 1 n1 1 t1 _ HW.out).mono ?_; rintro e w3 ⟨rfl, hf3⟩)
      obtain ⟨hc3, hz3⟩ := hf3.cells
      have hlt4 : w1.heap.size < w3.heap.size := Nat.lt_of_lt_of_le hlt2 hf3.size
      have hlt5 : w.heap.size < w3.heap.size := Nat.lt_trans hlt1 hlt4
      refine wpAny_ready (rs := [6]) (by kernel_rfl) (by simp) ?_; refine AllReady.cons rfl (fun K hK => ?_) AllReady.nil; go_simp; refine hK _ _ ?_; clear hK K
      refine wpAny_take (i := 9) (v := .pointer (some ⟨w.heap.size, 3, none⟩)) rfl (by kernel_rfl) (by kernel_rfl) (by kernel_rfl) (fun _ _ _ h => h) (Or.inl ⟨by rfl, fun W => by go_simp⟩) ?_
      refine wpAny_ready (rs := [7, 10]) (by kernel_rfl) (by simp) ?_
      refine AllReady.cons rfl (fun K hK => ?_) (AllReady.cons rfl (fun K hK => ?_) AllReady.nil)
      · go_simp; refine hK _ _ ?_; clear hK K
        refine wpAny_ready (rs := [8, 10]) (by kernel_rfl) (by simp) ?_
        refine AllReady.cons rfl (fun K hK => ?_) (AllReady.cons rfl (fun K hK => ?_) AllReady.nil)
        · go_simp
          go_wp2_with (go_at_call 205; refine (Plain_any 1 n1 t1 _ hn0 hn1).mono ?_; rintro e w4 ⟨u, hu, rfl, hf4⟩)
          obtain ⟨hc4, hz4⟩ := hf4.cells
          have hlt6 : w1.heap.size < w4.heap.size := Nat.lt_of_lt_of_le hlt4 hf4.size
          have hlt7 : w.heap.size < w4.heap.size := Nat.lt_trans hlt1 hlt6
          clear hu
          refine wpAny_ready (rs := [10]) (by kernel_rfl) (by simp) ?_; refine AllReady.cons rfl (fun K hK => ?_) AllReady.nil; go_simp; refine hK _ _ ?_; clear hK K
          refine wpAny_ready (rs := [11]) (by kernel_rfl) (by simp) ?_; refine AllReady.cons rfl (fun K hK => ?_) AllReady.nil; go_simp; refine hK _ _ ?_; clear hK K
          cases hE : (u.toList == t.toList)
          · refine wpAny_ready (rs := [12]) (by kernel_rfl) (by simp) ?_; refine AllReady.cons rfl (fun K hK => ?_) AllReady.nil; go_simp; refine hK _ _ ?_; clear hK K
            refine wpAny_ready (rs := [13]) (by kernel_rfl) (by simp) ?_; refine AllReady.cons rfl (fun K hK => ?_) AllReady.nil; go_simp; refine hK _ _ ?_; clear hK K
            refine wpAny_ready (rs := [14]) (by kernel_rfl) (by simp) ?_; refine AllReady.cons rfl (fun K hK => ?_) AllReady.nil; go_simp; refine hK _ _ ?_; clear hK K
            refine wpAny_ready (rs := [15]) (by kernel_rfl) (by simp) ?_; refine AllReady.cons rfl (fun K hK => ?_) AllReady.nil; go_simp; refine hK _ _ ?_; clear hK K
            refine wpAny_ready (rs := [16]) (by kernel_rfl) (by simp) ?_; refine AllReady.cons rfl (fun K hK => ?_) AllReady.nil; go_simp; refine hK _ _ ?_; clear hK K
            refine wpAny_ready (rs := [17]) (by kernel_rfl) (by simp) ?_; refine AllReady.cons rfl (fun K hK => ?_) AllReady.nil; go_simp; refine hK _ _ ?_; clear hK K
            refine wpAny_ready (rs := [18]) (by kernel_rfl) (by simp) ?_; refine AllReady.cons rfl (fun K hK => ?_) AllReady.nil; go_simp; refine hK _ _ ?_; clear hK K
            refine wpAny_ready (rs := [19]) (by kernel_rfl) (by simp) ?_; refine AllReady.cons rfl (fun K hK => ?_) AllReady.nil; go_simp; refine hK _ _ ?_; clear hK K
            refine wpAny_ready (rs := [20]) (by kernel_rfl) (by simp) ?_; refine AllReady.cons rfl (fun K hK => ?_) AllReady.nil; go_simp; refine hK _ _ ?_; clear hK K
            refine wpAny_done (by kernel_rfl) ?_ _
            go_wp2
            go_ret
            exact ⟨_, rfl, (by repeat (first | (with_reducible exact Fr.refl _) | ((with_reducible refine Fr.set ?_ ?_ _); focus (simp; done)) | (with_reducible refine Fr.alloc ?_ _) | (with_reducible refine Fr.drew ?_) | (with_reducible refine Fr.step ?_ (by assumption))))⟩
          · refine wpAny_ready (rs := [12]) (by kernel_rfl) (by simp) ?_; refine AllReady.cons rfl (fun K hK => ?_) AllReady.nil; go_simp; refine hK _ _ ?_; clear hK K
            refine wpAny_ready (rs := [13]) (by kernel_rfl) (by simp) ?_; refine AllReady.cons rfl (fun K hK => ?_) AllReady.nil; go_simp; refine hK _ _ ?_; clear hK K
            refine wpAny_ready (rs := [14]) (by kernel_rfl) (by simp) ?_; refine AllReady.cons rfl (fun K hK => ?_) AllReady.nil; go_simp; refine hK _ _ ?_; clear hK K
            refine wpAny_ready (rs := [15]) (by kernel_rfl) (by simp) ?_; refine AllReady.cons rfl (fun K hK => ?_) AllReady.nil; go_simp; refine hK _ _ ?_; clear hK K
            refine wpAny_ready (rs := [16]) (by kernel_rfl) (by simp) ?_; refine AllReady.cons rfl (fun K hK => ?_) AllReady.nil; go_simp
            go_wp2_with (go_at_call 206; refine (abs_any n1 _ hn0 hn1).mono ?_; rintro e w5 ⟨⟨m, rfl⟩, rfl⟩)
            refine wpAny_ready (rs := [17]) (by kernel_rfl) (by simp) ?_; refine AllReady.cons rfl (fun K hK => ?_) AllReady.nil; go_simp; refine hK _ _ ?_; clear hK K
            refine wpAny_ready (rs := [18]) (by kernel_rfl) (by simp) ?_; refine AllReady.cons rfl (fun K hK => ?_) AllReady.nil; go_simp; refine hK _ _ ?_; clear hK K
            refine wpAny_ready (rs := [19]) (by kernel_rfl) (by simp) ?_; refine AllReady.cons rfl (fun K hK => ?_) AllReady.nil; go_simp; refine hK _ _ ?_; clear hK K
            refine wpAny_ready (rs := [20]) (by kernel_rfl) (by simp) ?_; refine AllReady.cons rfl (fun K hK => ?_) AllReady.nil; go_simp; refine hK _ _ ?_; clear hK K
            refine wpAny_done (by kernel_rfl) ?_ _
            go_wp2
            go_ret
            exact ⟨_, rfl, (by repeat (first | (with_reducible exact Fr.refl _) | ((with_reducible refine Fr.set ?_ ?_ _); focus (simp; done)) | (with_reducible refine Fr.alloc ?_ _) | (with_reducible refine Fr.drew ?_) | (with_reducible refine Fr.step ?_ (by assumption))))⟩
        · go_simp; refine hK _ _ ?_; clear hK K
          refine wpAny_ready (rs := [8]) (by kernel_rfl) (by simp) ?_; refine AllReady.cons rfl (fun K hK => ?_) AllReady.nil; go_simp
          go_wp2_with (go_at_call 205; refine (Plain_any 1 n1 t1 _ hn0 hn1).mono ?_; rintro e w4 ⟨u, hu, rfl, hf4⟩)
          obtain ⟨hc4, hz4⟩ := hf4.cells
          have hlt6 : w1.heap.size < w4.heap.size := Nat.lt_of_lt_of_le hlt4 hf4.size
          have hlt7 : w.heap.size < w4.heap.size := Nat.lt_trans hlt1 hlt6
          clear hu
          refine wpAny_ready (rs := [11]) (by kernel_rfl) (by simp) ?_; refine AllReady.cons rfl (fun K hK => ?_) AllReady.nil; go_simp; refine hK _ _ ?_; clear hK K
          cases hE : (u.toList == t.toList)
          · refine wpAny_ready (rs := [12]) (by kernel_rfl) (by simp) ?_; refine AllReady.cons rfl (fun K hK => ?_) AllReady.nil; go_simp; refine hK _ _ ?_; clear hK K
            refine wpAny_ready (rs := [13]) (by kernel_rfl) (by simp) ?_; refine AllReady.cons rfl (fun K hK => ?_) AllReady.nil; go_simp; refine hK _ _ ?_; clear hK K
            refine wpAny_ready (rs := [14]) (by kernel_rfl) (by simp) ?_; refine AllReady.cons rfl (fun K hK => ?_) AllReady.nil; go_simp; refine hK _ _ ?_; clear hK K
            refine wpAny_ready (rs := [15]) (by kernel_rfl) (by simp) ?_; refine AllReady.cons rfl (fun K hK => ?_) AllReady.nil; go_simp; refine hK _ _ ?_; clear hK K
            refine wpAny_ready (rs := [16]) (by kernel_rfl) (by simp) ?_; refine AllReady.cons rfl (fun K hK => ?_) AllReady.nil; go_simp; refine hK _ _ ?_; clear hK K
            refine wpAny_ready (rs := [17]) (by kernel_rfl) (by simp) ?_; refine AllReady.cons rfl (fun K hK => ?_) AllReady.nil; go_simp; refine hK _ _ ?_; clear hK K
            refine wpAny_ready (rs := [18]) (by kernel_rfl) (by simp) ?_; refine AllReady.cons rfl (fun K hK => ?_) AllReady.nil; go_simp; refine hK _ _ ?_; clear hK K
            refine wpAny_ready (rs := [19]) (by kernel_rfl) (by simp) ?_; refine AllReady.cons rfl (fun K hK => ?_) AllReady.nil; go_simp; refine hK _ _ ?_; clear hK K
            refine wpAny_ready (rs := [20]) (by kernel_rfl) (by simp) ?_; refine AllReady.cons rfl (fun K hK => ?_) AllReady.nil; go_simp; refine hK _ _ ?_; clear hK K
            refine wpAny_done (by kernel_rfl) ?_ _
            go_wp2
            go_ret
            exact ⟨_, rfl, (by repeat (first | (with_reducible exact Fr.refl _) | ((with_reducible refine Fr.set ?_ ?_ _); focus (simp; done)) | (with_reducible refine Fr.alloc ?_ _) | (with_reducible refine Fr.drew ?_) | (with_reducible refine Fr.step ?_ (by assumption))))⟩
          · refine wpAny_ready (rs := [12]) (by kernel_rfl) (by simp) ?_; refine AllReady.cons rfl (fun K hK => ?_) AllReady.nil; go_simp; refine hK _ _ ?_; clear hK K
            refine wpAny_ready (rs := [13]) (by kernel_rfl) (by simp) ?_; refine AllReady.cons rfl (fun K hK => ?_) AllReady.nil; go_simp; refine hK _ _ ?_; clear hK K
            refine wpAny_ready (rs := [14]) (by kernel_rfl) (by simp) ?_; refine AllReady.cons rfl (fun K hK => ?_) AllReady.nil; go_simp; refine hK _ _ ?_; clear hK K
            refine wpAny_ready (rs := [15]) (by kernel_rfl) (by simp) ?_; refine AllReady.cons rfl (fun K hK => ?_) AllReady.nil; go_simp; refine hK _ _ ?_; clear hK K
            refine wpAny_ready (rs := [16]) (by kernel_rfl) (by simp) ?_; refine AllReady.cons rfl (fun K hK => ?_) AllReady.nil; go_simp
            go_wp2_with (go_at_call 206; refine (abs_any n1 _ hn0 hn1).mono ?_; rintro e w5 ⟨⟨m, rfl⟩, rfl⟩)
            refine wpAny_ready (rs := [17]) (by kernel_rfl) (by simp) ?_; refine AllReady.cons rfl (fun K hK => ?_) AllReady.nil; go_simp; refine hK _ _ ?_; clear hK K
            refine wpAny_ready (rs := [18]) (by kernel_rfl) (by simp) ?_; refine AllReady.cons rfl (fun K hK => ?_) AllReady.nil; go_simp; refine hK _ _ ?_; clear hK K
            refine wpAny_ready (rs := [19]) (by kernel_rfl) (by simp) ?_; refine AllReady.cons rfl (fun K hK => ?_) AllReady.nil; go_simp; refine hK _ _ ?_; clear hK K
            refine wpAny_ready (rs := [20]) (by kernel_rfl) (by simp) ?_; refine AllReady.cons rfl (fun K hK => ?_) AllReady.nil; go_simp; refine hK _ _ ?_; clear hK K
            refine wpAny_done (by kernel_rfl) ?_ _
            go_wp2
            go_ret
            exact ⟨_, rfl, (by repeat (first | (with_reducible exact Fr.refl _) | ((with_reducible refine Fr.set ?_ ?_ _); focus (simp; done)) | (with_reducible refine Fr.alloc ?_ _) | (with_reducible refine Fr.drew ?_) | (with_reducible refine Fr.step ?_ (by assumption))))⟩
      · go_simp; refine hK _ _ ?_; clear hK K
        refine wpAny_ready (rs := [7]) (by kernel_rfl) (by simp) ?_; refine AllReady.cons rfl (fun K hK => ?_) AllReady.nil; go_simp; refine hK _ _ ?_; clear hK K
        refine wpAny_ready (rs := [8]) (by kernel_rfl) (by simp) ?_; refine AllReady.cons rfl (fun K hK => ?_) AllReady.nil; go_simp
        go_wp2_with (go_at_call 205; refine (Plain_any 1 n1 t1 _ hn0 hn1).mono ?_; rintro e w4 ⟨u, hu, rfl, hf4⟩)
        obtain ⟨hc4, hz4⟩ := hf4.cells
        have hlt6 : w1.heap.size < w4.heap.size := Nat.lt_of_lt_of_le hlt4 hf4.size
        have hlt7 : w.heap.size < w4.heap.size := Nat.lt_trans hlt1 hlt6
        clear hu
        refine wpAny_ready (rs := [11]) (by kernel_rfl) (by simp) ?_; refine AllReady.cons rfl (fun K hK => ?_) AllReady.nil; go_simp; refine hK _ _ ?_; clear hK K
        cases hE : (u.toList == t.toList)
        · refine wpAny_ready (rs := [12]) (by kernel_rfl) (by simp) ?_; refine AllReady.cons rfl (fun K hK => ?_) AllReady.nil; go_simp; refine hK _ _ ?_; clear hK K
          refine wpAny_ready (rs := [13]) (by kernel_rfl) (by simp) ?_; refine AllReady.cons rfl (fun K hK => ?_) AllReady.nil; go_simp; refine hK _ _ ?_; clear hK K
          refine wpAny_ready (rs := [14]) (by kernel_rfl) (by simp) ?_; refine AllReady.cons rfl (fun K hK => ?_) AllReady.nil; go_simp; refine hK _ _ ?_; clear hK K
          refine wpAny_ready (rs := [15]) (by kernel_rfl) (by simp) ?_; refine AllReady.cons rfl (fun K hK => ?_) AllReady.nil; go_simp; refine hK _ _ ?_; clear hK K
          refine wpAny_ready (rs := [16]) (by kernel_rfl) (by simp) ?_; refine AllReady.cons rfl (fun K hK => ?_) AllReady.nil; go_simp; refine hK _ _ ?_; clear hK K
          refine wpAny_ready (rs := [17]) (by kernel_rfl) (by simp) ?_; refine AllReady.cons rfl (fun K hK => ?_) AllReady.nil; go_simp; refine hK _ _ ?_; clear hK K
          refine wpAny_ready (rs := [18]) (by kernel_rfl) (by simp) ?_; refine AllReady.cons rfl (fun K hK => ?_) AllReady.nil; go_simp; refine hK _ _ ?_; clear hK K
          refine wpAny_ready (rs := [19]) (by kernel_rfl) (by simp) ?_; refine AllReady.cons rfl (fun K hK => ?_) AllReady.nil; go_simp; refine hK _ _ ?_; clear hK K
          refine wpAny_ready (rs := [20]) (by kernel_rfl) (by simp) ?_; refine AllReady.cons rfl (fun K hK => ?_) AllReady.nil; go_simp; refine hK _ _ ?_; clear hK K
          refine wpAny_done (by kernel_rfl) ?_ _
          go_wp2
          go_ret
          exact ⟨_, rfl, (by repeat (first | (with_reducible exact Fr.refl _) | ((with_reducible refine Fr.set ?_ ?_ _); focus (simp; done)) | (with_reducible refine Fr.alloc ?_ _) | (with_reducible refine Fr.drew ?_) | (with_reducible refine Fr.step ?_ (by assumption))))⟩
        · refine wpAny_ready (rs := [12]) (by kernel_rfl) (by simp) ?_; refine AllReady.cons rfl (fun K hK => ?_) AllReady.nil; go_simp; refine hK _ _ ?_; clear hK K
          refine wpAny_ready (rs := [13]) (by kernel_rfl) (by simp) ?_; refine AllReady.cons rfl (fun K hK => ?_) AllReady.nil; go_simp; refine hK _ _ ?_; clear hK K
          refine wpAny_ready (rs := [14]) (by kernel_rfl) (by simp) ?_; refine AllReady.cons rfl (fun K hK => ?_) AllReady.nil; go_simp; refine hK _ _ ?_; clear hK K
          refine wpAny_ready (rs := [15]) (by kernel_rfl) (by simp) ?_; refine AllReady.cons rfl (fun K hK => ?_) AllReady.nil; go_simp; refine hK _ _ ?_; clear hK K
          refine wpAny_ready (rs := [16]) (by kernel_rfl) (by simp) ?_; refine AllReady.cons rfl (fun K hK => ?_) AllReady.nil; go_simp
          go_wp2_with (go_at_call 206; refine (abs_any n1 _ hn0 hn1).mono ?_; rintro e w5 ⟨⟨m, rfl⟩, rfl⟩)
          refine wpAny_ready (rs := [17]) (by kernel_rfl) (by simp) ?_; refine AllReady.cons rfl (fun K hK => ?_) AllReady.nil; go_simp; refine hK _ _ ?_; clear hK K
          refine wpAny_ready (rs := [18]) (by kernel_rfl) (by simp) ?_; refine AllReady.cons rfl (fun K hK => ?_) AllReady.nil; go_simp; refine hK _ _ ?_; clear hK K
          refine wpAny_ready (rs := [19]) (by kernel_rfl) (by simp) ?_; refine AllReady.cons rfl (fun K hK => ?_) AllReady.nil; go_simp; refine hK _ _ ?_; clear hK K
          refine wpAny_ready (rs := [20]) (by kernel_rfl) (by simp) ?_; refine AllReady.cons rfl (fun K hK => ?_) AllReady.nil; go_simp; refine hK _ _ ?_; clear hK K
          refine wpAny_done (by kernel_rfl) ?_ _
          go_wp2
          go_ret
          exact ⟨_, rfl, (by repeat (first | (with_reducible exact Fr.refl _) | ((with_reducible refine Fr.set ?_ ?_ _); focus (simp; done)) | (with_reducible refine Fr.alloc ?_ _) | (with_reducible refine Fr.drew ?_) | (with_reducible refine Fr.step ?_ (by assumption))))⟩
  · have HL := Lib.hid hL; clear hL
    refine wp_region_any (by kernel_rfl) ?_
    change wpAny _ _ _ _ _ _ _ (World.drew _)
    refine wpAny_ready (rs := [0]) (by kernel_rfl) (by simp) ?_; refine AllReady.cons rfl (fun K hK => ?_) AllReady.nil; go_simp; refine hK _ _ ?_; clear hK K
    refine wpAny_ready (rs := [1]) (by kernel_rfl) (by simp) ?_; refine AllReady.cons rfl (fun K hK => ?_) AllReady.nil; go_simp; refine hK _ _ ?_; clear hK K
    refine wpAny_ready (rs := [2]) (by kernel_rfl) (by simp) ?_; refine AllReady.cons rfl (fun K hK => ?_) AllReady.nil; go_simp
    go_wp2_with (go_at_call 141; refine (letters_yes t _ Hs.out HL.out).mono ?_; rintro e w2 ⟨rfl, hf2⟩)
    refine wpAny_ready (rs := [3]) (by kernel_rfl) (by simp) ?_; refine AllReady.cons rfl (fun K hK => ?_) AllReady.nil; go_simp; refine hK _ _ ?_; clear hK K
    refine wpAny_ready (rs := [4]) (by kernel_rfl) (by simp) ?_; refine AllReady.cons rfl (fun K hK => ?_) AllReady.nil; go_simp; refine hK _ _ ?_; clear hK K
    refine wpAny_ready (rs := [5]) (by kernel_rfl) (by simp) ?_; refine AllReady.cons rfl (fun K hK => ?_) AllReady.nil; go_simp; refine hK _ _ ?_; clear hK K
    refine wpAny_ready (rs := [6]) (by kernel_rfl) (by simp) ?_; refine AllReady.cons rfl (fun K hK => ?_) AllReady.nil; go_simp; refine hK _ _ ?_; clear hK K
    refine wpAny_take (i := 9) (v := undef) rfl (by kernel_rfl) (by kernel_rfl) (by kernel_rfl) (fun _ _ _ h => h) (Or.inr ⟨by rfl, rfl⟩) ?_
    refine wpAny_take (i := 10) (v := undef) rfl (by kernel_rfl) (by kernel_rfl) (by kernel_rfl) (fun _ _ _ h => h) (Or.inr ⟨by rfl, rfl⟩) ?_
    refine wpAny_ready (rs := [7]) (by kernel_rfl) (by simp) ?_; refine AllReady.cons rfl (fun K hK => ?_) AllReady.nil; go_simp; refine hK _ _ ?_; clear hK K
    refine wpAny_ready (rs := [8]) (by kernel_rfl) (by simp) ?_; refine AllReady.cons rfl (fun K hK => ?_) AllReady.nil; go_simp; refine hK _ _ ?_; clear hK K
    refine wpAny_ready (rs := [11]) (by kernel_rfl) (by simp) ?_; refine AllReady.cons rfl (fun K hK => ?_) AllReady.nil; go_simp; refine hK _ _ ?_; clear hK K
    refine wpAny_ready (rs := [12]) (by kernel_rfl) (by simp) ?_; refine AllReady.cons rfl (fun K hK => ?_) AllReady.nil; go_simp; refine hK _ _ ?_; clear hK K
    refine wpAny_ready (rs := [13]) (by kernel_rfl) (by simp) ?_; refine AllReady.cons rfl (fun K hK => ?_) AllReady.nil; go_simp; refine hK _ _ ?_; clear hK K
    refine wpAny_ready (rs := [14]) (by kernel_rfl) (by simp) ?_; refine AllReady.cons rfl (fun K hK => ?_) AllReady.nil; go_simp; refine hK _ _ ?_; clear hK K
    refine wpAny_ready (rs := [15]) (by kernel_rfl) (by simp) ?_; refine AllReady.cons rfl (fun K hK => ?_) AllReady.nil; go_simp; refine hK _ _ ?_; clear hK K
    refine wpAny_ready (rs := [16]) (by kernel_rfl) (by simp) ?_; refine AllReady.cons rfl (fun K hK => ?_) AllReady.nil; go_simp; refine hK _ _ ?_; clear hK K
    refine wpAny_ready (rs := [17]) (by kernel_rfl) (by simp) ?_; refine AllReady.cons rfl (fun K hK => ?_) AllReady.nil; go_simp; refine hK _ _ ?_; clear hK K
    refine wpAny_ready (rs := [18]) (by kernel_rfl) (by simp) ?_; refine AllReady.cons rfl (fun K hK => ?_) AllReady.nil; go_simp; refine hK _ _ ?_; clear hK K
    refine wpAny_ready (rs := [19]) (by kernel_rfl) (by simp) ?_; refine AllReady.cons rfl (fun K hK => ?_) AllReady.nil; go_simp; refine hK _ _ ?_; clear hK K
    refine wpAny_ready (rs := [20]) (by kernel_rfl) (by simp) ?_; refine AllReady.cons rfl (fun K hK => ?_) AllReady.nil; go_simp; refine hK _ _ ?_; clear hK K
    refine wpAny_done (by kernel_rfl) ?_ _
    go_wp2
    go_ret
    exact ⟨_, rfl, (by repeat (first | (with_reducible exact Fr.refl _) | ((with_reducible refine Fr.set ?_ ?_ _); focus (simp; done)) | (with_reducible refine Fr.alloc ?_ _) | (with_reducible refine Fr.drew ?_) | (with_reducible refine Fr.step ?_ (by assumption))))⟩
end Go.Proofs.YtnpnclhjfemldaaGreatDoor
