import Derived.Test.YtnpnclhjfemldaaGreatDoorA1
import Derived.Deep.QuietTactic
import Derived.BigQuiet
set_option linter.unusedSimpArgs false
set_option linter.unusedVariables false
namespace Go.Proofs.YtnpnclhjfemldaaGreatDoor
open Go.RowKit
set_option maxHeartbeats 1000000 in
theorem isWhole_any (k n d : Int) (t : ByteArray) (w : World) :
    Calls Tryz.prog 149 #[sv k n d t] w fun e w' => e = .returned (.bool (k == 1 && d == 1)) ∧ Fr w w' := by
  unfold sv
  by_cases hk : k = 1
  · subst hk
    go_enter Tryz.func149, Tryz.ntmps149
    go_wp2
    go_ret
    exact ⟨rfl, (by repeat (first | (with_reducible exact Fr.refl _) | ((with_reducible refine Fr.set ?_ ?_ _); focus (simp; done)) | (with_reducible refine Fr.alloc ?_ _) | (with_reducible refine Fr.drew ?_) | (with_reducible refine Fr.step ?_ (by assumption))))⟩
  · have hk' : (k == 1) = false := by simpa using hk
    clear hk
    go_enter Tryz.func149, Tryz.ntmps149
    go_wp2
    go_ret
    exact ⟨by rw [hk']; rfl, (by repeat (first | (with_reducible exact Fr.refl _) | ((with_reducible refine Fr.set ?_ ?_ _); focus (simp; done)) | (with_reducible refine Fr.alloc ?_ _) | (with_reducible refine Fr.drew ?_) | (with_reducible refine Fr.step ?_ (by assumption))))⟩
set_option maxHeartbeats 1000000 in
theorem abs_any (n : Int) (w : World) (h0 : -99999999999 ≤ n) (h1 : n ≤ 99999999999) :
    Calls Tryz.prog 206 #[.int .i64 n] w fun e w' => (∃ m, e = .returned (.int .i64 m)) ∧ w = w' := by
  go_enter Tryz.func206, Tryz.ntmps206
  go_wp2
  all_goals
    go_ret
    exact ⟨⟨_, rfl⟩, rfl⟩
theorem extract_le (s : ByteArray) (n : Int) (h0 : 0 ≤ n) : (s.extract n.toNat (n + 1).toNat).size ≤ 1 := by
  rw [ByteArray.size_extract]; omega
set_option maxRecDepth 100000 in
set_option maxHeartbeats 1000000 in
theorem Digits_any : ∀ (f : Nat) (n : Int) (w : World), 0 ≤ n → n < 10 ^ (f + 1) → f ≤ 16 →
    Calls Tryz.prog 166 #[.int .i64 n, .int .i64 10] w (TextLe (f + 1) w) := by
  intro f
  induction f with
  | zero => 
    intro n w h0 h1 hf
    have h1' : n < 10 := by omega
    have hm : 0 ≤ n % 10 := by omega
    have hm2 : n % 10 < 10 := by omega
    go_enter Tryz.func166, Tryz.ntmps166
    go_wp2
    go_quiet (fail)
    go_wp2
    go_ret
    exact ⟨_, extract_le _ _ hm, rfl, (Fr.refl _).drewN _⟩
  | succ f ih =>
    intro n w h0 h1 hf
    by_cases h9 : n < 10
    · have hm : 0 ≤ n % 10 := by omega
      have hm2 : n % 10 < 10 := by omega
      clear h1
      go_enter Tryz.func166, Tryz.ntmps166
      go_wp2
      go_quiet (fail)
      go_wp2
      go_ret
      exact ⟨_, Nat.le_trans (extract_le _ _ hm) (by omega), rfl, (Fr.refl _).drewN _⟩
    · have hm : 0 ≤ n % 10 := by omega
      have hm2 : n % 10 < 10 := by omega
      have h1' : n / 10 < 10 ^ (f + 1) := by
        rw [Int.pow_succ] at h1
        generalize (10 : Int) ^ (f + 1) = T at *
        omega
      have hlim : n ≤ 1000000000000000000 := by
        have : (10 : Int) ^ (f + 1 + 1) ≤ 10 ^ 18 := by
          have : (10 : Nat) ^ (f + 1 + 1) ≤ 10 ^ 18 := Nat.pow_le_pow_right (by decide) (by omega)
          exact_mod_cast this
        omega
      have H1 := Lib.hid h1'; clear h1 h1'
      have hbig : 10 ≤ n := by omega
      clear h9
      go_enter Tryz.func166, Tryz.ntmps166
      go_wp2
      go_quiet (fail)
      have Hx := Lib.hid (extract_le ⟨#[48, 49, 50, 51, 52, 53, 54, 55, 56, 57, 65, 66, 67, 68, 69, 70, 71, 72, 73, 74, 75, 76, 77, 78, 79, 80, 81, 82, 83, 84, 85, 86, 87, 88, 89, 90]⟩ (n % 10) hm)
      generalize (ByteArray.mk #[48, 49, 50, 51, 52, 53, 54, 55, 56, 57, 65, 66, 67, 68, 69, 70, 71, 72, 73, 74, 75, 76, 77, 78, 79, 80, 81, 82, 83, 84, 85, 86, 87, 88, 89, 90]).extract (n % 10).toNat (n % 10 + 1).toNat = d at *
      go_wp2_with fail
      refine (ih (n / 10) _ (by omega) H1.out (by omega)).mono ?_
      rintro e w1 ⟨t, ht, rfl, hf1⟩
      have Ht := Lib.hid ht; clear ht
      have hsum : t.size + d.size ≤ 9223372036854775807 := by have := Ht.out; have := Hx.out; omega
      have hq : (t ++ d).size ≤ f + 1 + 1 := by have := Ht.out; have := Hx.out; rw [ByteArray.size_append]; omega
      have Hq := Lib.hid hq; clear hq
      go_wp2
      go_ret
      exact ⟨_, Hq.out, rfl, Fr.step ((Fr.refl _).drewN _) hf1⟩
end Go.Proofs.YtnpnclhjfemldaaGreatDoor
