import Derived.Test.YtnpnclhjfemldaaGreatDoorS2
import Derived.Test.YtnpnclhjfemldaaGreatDoorS3
set_option linter.unusedSimpArgs false
set_option linter.unusedVariables false
namespace Go.Proofs.YtnpnclhjfemldaaGreatDoor
open Go.RowKit
set_option maxRecDepth 100000 in
set_option maxHeartbeats 1000000 in
theorem Plain_any (k n : Int) (t : ByteArray) (w : World) (h0 : -99999999999 ≤ n) (h1 : n ≤ 99999999999) :
    Calls Tryz.prog 205 #[sv k n 1 t] w (TextLe 20 w) := by
  unfold sv
  by_cases hn : n < 0
  · go_enter Tryz.func205, Tryz.ntmps205
    go_wp2_with fail
    refine (Digits_any 11 (-n) _ (by omega) (by omega) (by omega)).mono ?_
    rintro e w1 ⟨u, hu, rfl, hf1⟩
    obtain ⟨hc1, hz1⟩ := hf1.cells
    have hsum : (⟨#[45]⟩ : ByteArray).size + u.size ≤ 9223372036854775807 := by show 1 + u.size ≤ _; omega
    have hq : ((⟨#[45]⟩ : ByteArray) ++ u).size ≤ 20 := by rw [ByteArray.size_append]; show 1 + u.size ≤ _; omega
    have Hq := Lib.hid hq; clear hq
    go_wp2
    go_ret
    exact ⟨_, Hq.out, rfl, (by repeat (first | (with_reducible exact Fr.refl _) | ((with_reducible refine Fr.set ?_ ?_ _); focus (simp; done)) | (with_reducible refine Fr.alloc ?_ _) | (with_reducible refine Fr.drew ?_) | (with_reducible refine Fr.step ?_ (by assumption))))⟩
  · go_enter Tryz.func205, Tryz.ntmps205
    go_wp2_with fail
    refine (Digits_any 11 n _ (by omega) (by omega) (by omega)).mono ?_
    rintro e w1 ⟨u, hu, rfl, hf1⟩
    obtain ⟨hc1, hz1⟩ := hf1.cells
    have hsum : (⟨#[]⟩ : ByteArray).size + u.size ≤ 9223372036854775807 := by show 0 + u.size ≤ _; omega
    have hq : ((⟨#[]⟩ : ByteArray) ++ u).size ≤ 20 := by rw [ByteArray.size_append]; show 0 + u.size ≤ _; omega
    have Hq := Lib.hid hq; clear hq
    go_wp2
    go_ret
    exact ⟨_, Hq.out, rfl, (by repeat (first | (with_reducible exact Fr.refl _) | ((with_reducible refine Fr.set ?_ ?_ _); focus (simp; done)) | (with_reducible refine Fr.alloc ?_ _) | (with_reducible refine Fr.drew ?_) | (with_reducible refine Fr.step ?_ (by assumption))))⟩
def sameB (k n d : Int) (t : ByteArray) (k' n' d' : Int) (t' : ByteArray) : Bool := k == k' && n == n' && d == d' && (t.toList == t'.toList)
set_option maxRecDepth 100000 in
set_option maxHeartbeats 1000000 in
theorem Same_any (k n d : Int) (t : ByteArray) (k' n' d' : Int) (t' : ByteArray) (w : World) :
    Calls Tryz.prog 148 #[sv k n d t, sv k' n' d' t'] w fun e w' => e = .returned (.bool (sameB k n d t k' n' d' t')) ∧ Fr w w' := by
  unfold sv
  by_cases hk : k = k'
  · subst hk
    by_cases hn : n = n'
    · subst hn
      by_cases hd : d = d'
      · subst hd
        by_cases ht : t.toList = t'.toList
        · have hv := Lib.hid (show sameB k n d t k n d t' = true by unfold sameB; rw [ht]; simp)
          go_enter Tryz.func148, Tryz.ntmps148
          go_wp2
          refine wp_loop_rounds 1 ?_
          rw [rounds_succ]
          go_wp2
          go_ret
          exact ⟨by rw [hv.out]; rfl, (by repeat (first | (with_reducible exact Fr.refl _) | ((with_reducible refine Fr.set ?_ ?_ _); focus (simp; done)) | (with_reducible refine Fr.alloc ?_ _) | (with_reducible refine Fr.drew ?_) | (with_reducible refine Fr.step ?_ (by assumption))))⟩
        · have hv := Lib.hid (show sameB k n d t k n d t' = false by unfold sameB; simp [ht])
          go_enter Tryz.func148, Tryz.ntmps148
          go_wp2
          go_ret
          exact ⟨by rw [hv.out]; rfl, (by repeat (first | (with_reducible exact Fr.refl _) | ((with_reducible refine Fr.set ?_ ?_ _); focus (simp; done)) | (with_reducible refine Fr.alloc ?_ _) | (with_reducible refine Fr.drew ?_) | (with_reducible refine Fr.step ?_ (by assumption))))⟩
      · have hv := Lib.hid (show sameB k n d t k n d' t' = false by unfold sameB; simp [hd])
        have hd' : (d == d') = false := by simpa using hd
        go_enter Tryz.func148, Tryz.ntmps148
        go_wp2
        go_ret
        exact ⟨by rw [hv.out]; rfl, (by repeat (first | (with_reducible exact Fr.refl _) | ((with_reducible refine Fr.set ?_ ?_ _); focus (simp; done)) | (with_reducible refine Fr.alloc ?_ _) | (with_reducible refine Fr.drew ?_) | (with_reducible refine Fr.step ?_ (by assumption))))⟩
    · have hv := Lib.hid (show sameB k n d t k n' d' t' = false by unfold sameB; simp [hn])
      have hd' : (n == n') = false := by simpa using hn
      go_enter Tryz.func148, Tryz.ntmps148
      go_wp2
      go_ret
      exact ⟨by rw [hv.out]; rfl, (by repeat (first | (with_reducible exact Fr.refl _) | ((with_reducible refine Fr.set ?_ ?_ _); focus (simp; done)) | (with_reducible refine Fr.alloc ?_ _) | (with_reducible refine Fr.drew ?_) | (with_reducible refine Fr.step ?_ (by assumption))))⟩
  · have hv := Lib.hid (show sameB k n d t k' n' d' t' = false by unfold sameB; simp [hk])
    have hd' : (k == k') = false := by simpa using hk
    go_enter Tryz.func148, Tryz.ntmps148
    go_wp2
    go_ret
    exact ⟨by rw [hv.out]; rfl, (by repeat (first | (with_reducible exact Fr.refl _) | ((with_reducible refine Fr.set ?_ ?_ _); focus (simp; done)) | (with_reducible refine Fr.alloc ?_ _) | (with_reducible refine Fr.drew ?_) | (with_reducible refine Fr.step ?_ (by assumption))))⟩
end Go.Proofs.YtnpnclhjfemldaaGreatDoor
