import Derived.Test.YtnpnclhjfemldaaGreatDoorS4
import Derived.Test.YtnpnclhjfemldaaGreatDoorS5
set_option linter.unusedSimpArgs false
set_option linter.unusedVariables false
namespace Go.Proofs.YtnpnclhjfemldaaGreatDoor
open Go.RowKit
theorem read_step {j : Nat} {n c : Int} (hn : 0 ≤ n) (hn1 : n < 10 ^ j) (hc0 : 48 ≤ c) (hc1 : c ≤ 57) : 0 ≤ 10 * n + (c - 48) ∧ 10 * n + (c - 48) < 10 ^ (j + 1) := by
  rw [Int.pow_succ]
  generalize (10 : Int) ^ j = P at *
  omega
theorem read_d {j : Nat} {d : Int} (hd : 1 ≤ d) (hd1 : d ≤ 10 ^ j) : 1 ≤ d * 10 ∧ d * 10 ≤ 10 ^ (j + 1) := by
  rw [Int.pow_succ]
  generalize (10 : Int) ^ j = P at *
  omega
theorem read_d' {j : Nat} {d : Int} (hd1 : d ≤ 10 ^ j) : d ≤ 10 ^ (j + 1) := by
  rw [Int.pow_succ]
  have : (0 : Int) < 10 ^ j := by exact_mod_cast Nat.pow_pos (n := j) (show 0 < 10 by decide)
  generalize (10 : Int) ^ j = P at *
  omega
theorem pow12 {j : Nat} (hj : j ≤ 12) : (10 : Int) ^ j ≤ 1000000000000 := by
  have h : (10 : Nat) ^ j ≤ 10 ^ 12 := Nat.pow_le_pow_right (by decide) hj
  have h2 : ((10 ^ j : Nat) : Int) ≤ ((10 ^ 12 : Nat) : Int) := Int.ofNat_le.2 h
  rw [Int.natCast_pow, Int.natCast_pow] at h2
  exact h2
/-- The loop's state. -/
def ReadRel (size : Nat) (a n m d p : Value) : Prop := ∃ (k j : Nat) (x y : Int) (b : Bool), k ≤ size ∧ j ≤ 12 ∧ 0 ≤ x ∧ x < 10 ^ j ∧ 1 ≤ y ∧ y ≤ 10 ^ j ∧ a = .int .i64 k ∧ n = .int .i64 x ∧ m = .int .i64 j ∧ d = .int .i64 y ∧ p = .bool b
set_option maxRecDepth 100000 in
set_option maxHeartbeats 4000000 in
theorem Read_minus (s : ByteArray) (w : World) (hs : s.size ≤ maxLen) (h0 : 0 < s.size) (hm : ((s[0].toNat : Int) == 45) = true) :
    Calls Tryz.prog 197 #[.string s] w (SomeV w) := by
  have hs' := hs
  have Hs := Lib.hid hs; clear hs
  unfold maxLen at hs'
  go_enter Tryz.func197, Tryz.ntmps197
  go_wp2_with fail
  go_loop [3, 5, 6, 7, 8] (fun a n m d p => ReadRel s.size a n m d p) (fun a _ _ _ _ => s.size - (intOf a).toNat)
  case atStart => exact ⟨1, 0, 0, 1, false, by omega, by omega, by decide, by decide, by decide, by decide, rfl, rfl, rfl, rfl, rfl⟩
  case round =>
    obtain ⟨k, j, x, y, b, hk, hj, hx0, hx1, hy0, hy1, rfl, rfl, rfl, rfl, rfl⟩ := hrel
    have hP := pow12 hj
    have hxb : x < 1000000000000 := by omega
    have hyb : y ≤ 1000000000000 := by omega
    have Hx := Lib.hid hx1; clear hx1
    have Hy := Lib.hid hy1; clear hy1 hP
    by_cases hlt : k < s.size
    · obtain ⟨r1, r2⟩ := byte_range s[k]
      by_cases hA : 48 ≤ (s[k].toNat : Int) ∧ (s[k].toNat : Int) ≤ 57 ∧ j < 12
      · obtain ⟨a1, a2, a3⟩ := hA
        have hs1 := Lib.hid (read_step hx0 Hx.out a1 a2)
        have hs2 := Lib.hid (read_d hy0 Hy.out)
        have hs3 := Lib.hid (read_d' Hy.out)
        cases b
        · go_wp2
          go_round
          case rel => exact ⟨k + 1, j + 1, _, y, false, by omega, by omega, hs1.out.1, hs1.out.2, hy0, hs3.out, by go_num, rfl, by go_num, rfl, rfl⟩
          case measure => simp [intOf]; try omega
        · go_wp2
          go_round
          case rel => exact ⟨k + 1, j + 1, _, _, true, by omega, by omega, hs1.out.1, hs1.out.2, hs2.out.1, hs2.out.2, by go_num, rfl, by go_num, rfl, rfl⟩
          case measure => simp [intOf]; try omega
      · have Hk := Lib.hid hk; clear hk
        by_cases hB : (s[k].toNat : Int) = 46 ∧ b = false ∧ 0 < j ∧ k + 1 < s.size
        · obtain ⟨b1, rfl, b3, b4⟩ := hB
          have b1' : ((s[k].toNat : Int) == 46) = true := by simpa using b1
          have b5 : (s[k].toNat : Int) < 48 := by omega
          clear b1 hA
          go_wp2
          go_round
          case rel => exact ⟨k + 1, j, x, y, true, by omega, hj, hx0, Hx.out, hy0, Hy.out, by go_num, rfl, rfl, rfl, rfl⟩
          case measure => simp [intOf]; try omega
        · by_cases c1 : (s[k].toNat : Int) < 48
          · clear hA
            by_cases c2 : (s[k].toNat : Int) = 46
            · have c2' : ((s[k].toNat : Int) == 46) = true := by simpa using c2
              cases b
              · by_cases c3 : 0 < j
                · have c4 : ¬ (k + 1 < s.size) := fun h => hB ⟨c2, rfl, c3, h⟩
                  clear c2 hB
                  have c5 : (s.size : Int) ≤ (k : Int) + 1 := by omega
                  go_wp2_with fail
                  refine (other_any s _ Hs.out).mono ?_
                  rintro e w1 ⟨rfl, hf1⟩
                  obtain ⟨kq, tq, ev, hk6⟩ := otherV_sv s
                  rw [ev]
                  obtain ⟨hc1, hz1⟩ := hf1.cells
                  unfold sv
                  go_wp2
                  exact bodyPost_ret (v := sv kq 0 0 tq) (by simp [results, Tryz.results197, go_sem, sv, mt, *]) rfl (SomeV.mk (fun h => absurd h hk6) (by repeat (first | (with_reducible exact Fr.refl _) | ((with_reducible refine Fr.set ?_ ?_ _); focus (simp; done)) | (with_reducible refine Fr.alloc ?_ _) | (with_reducible refine Fr.drew ?_) | (with_reducible refine Fr.step ?_ (by assumption)))))
                · have c4 : j = 0 := by omega
                  subst c4
                  clear c2 hB
                  go_wp2_with fail
                  refine (other_any s _ Hs.out).mono ?_
                  rintro e w1 ⟨rfl, hf1⟩
                  obtain ⟨kq, tq, ev, hk6⟩ := otherV_sv s
                  rw [ev]
                  obtain ⟨hc1, hz1⟩ := hf1.cells
                  unfold sv
                  go_wp2
                  exact bodyPost_ret (v := sv kq 0 0 tq) (by simp [results, Tryz.results197, go_sem, sv, mt, *]) rfl (SomeV.mk (fun h => absurd h hk6) (by repeat (first | (with_reducible exact Fr.refl _) | ((with_reducible refine Fr.set ?_ ?_ _); focus (simp; done)) | (with_reducible refine Fr.alloc ?_ _) | (with_reducible refine Fr.drew ?_) | (with_reducible refine Fr.step ?_ (by assumption)))))
              · clear c2 hB
                go_wp2_with fail
                refine (other_any s _ Hs.out).mono ?_
                rintro e w1 ⟨rfl, hf1⟩
                obtain ⟨kq, tq, ev, hk6⟩ := otherV_sv s
                rw [ev]
                obtain ⟨hc1, hz1⟩ := hf1.cells
                unfold sv
                go_wp2
                exact bodyPost_ret (v := sv kq 0 0 tq) (by simp [results, Tryz.results197, go_sem, sv, mt, *]) rfl (SomeV.mk (fun h => absurd h hk6) (by repeat (first | (with_reducible exact Fr.refl _) | ((with_reducible refine Fr.set ?_ ?_ _); focus (simp; done)) | (with_reducible refine Fr.alloc ?_ _) | (with_reducible refine Fr.drew ?_) | (with_reducible refine Fr.step ?_ (by assumption)))))
            · have c2' : ((s[k].toNat : Int) == 46) = false := by simpa using c2
              clear c2 hB
              go_wp2_with fail
              refine (other_any s _ Hs.out).mono ?_
              rintro e w1 ⟨rfl, hf1⟩
              obtain ⟨kq, tq, ev, hk6⟩ := otherV_sv s
              rw [ev]
              obtain ⟨hc1, hz1⟩ := hf1.cells
              unfold sv
              go_wp2
              exact bodyPost_ret (v := sv kq 0 0 tq) (by simp [results, Tryz.results197, go_sem, sv, mt, *]) rfl (SomeV.mk (fun h => absurd h hk6) (by repeat (first | (with_reducible exact Fr.refl _) | ((with_reducible refine Fr.set ?_ ?_ _); focus (simp; done)) | (with_reducible refine Fr.alloc ?_ _) | (with_reducible refine Fr.drew ?_) | (with_reducible refine Fr.step ?_ (by assumption)))))
          · have c2' : ((s[k].toNat : Int) == 46) = false := by simp; omega
            clear hB
            by_cases c6 : (s[k].toNat : Int) ≤ 57
            · have c7 : 12 ≤ j := by omega
              clear hA
              go_wp2_with fail
              refine (other_any s _ Hs.out).mono ?_
              rintro e w1 ⟨rfl, hf1⟩
              obtain ⟨kq, tq, ev, hk6⟩ := otherV_sv s
              rw [ev]
              obtain ⟨hc1, hz1⟩ := hf1.cells
              unfold sv
              go_wp2
              exact bodyPost_ret (v := sv kq 0 0 tq) (by simp [results, Tryz.results197, go_sem, sv, mt, *]) rfl (SomeV.mk (fun h => absurd h hk6) (by repeat (first | (with_reducible exact Fr.refl _) | ((with_reducible refine Fr.set ?_ ?_ _); focus (simp; done)) | (with_reducible refine Fr.alloc ?_ _) | (with_reducible refine Fr.drew ?_) | (with_reducible refine Fr.step ?_ (by assumption)))))
            · have c8 : 57 < (s[k].toNat : Int) := by omega
              clear hA c6
              go_wp2_with fail
              refine (other_any s _ Hs.out).mono ?_
              rintro e w1 ⟨rfl, hf1⟩
              obtain ⟨kq, tq, ev, hk6⟩ := otherV_sv s
              rw [ev]
              obtain ⟨hc1, hz1⟩ := hf1.cells
              unfold sv
              go_wp2
              exact bodyPost_ret (v := sv kq 0 0 tq) (by simp [results, Tryz.results197, go_sem, sv, mt, *]) rfl (SomeV.mk (fun h => absurd h hk6) (by repeat (first | (with_reducible exact Fr.refl _) | ((with_reducible refine Fr.set ?_ ?_ _); focus (simp; done)) | (with_reducible refine Fr.alloc ?_ _) | (with_reducible refine Fr.drew ?_) | (with_reducible refine Fr.step ?_ (by assumption)))))
    · by_cases hj0 : j = 0
      · subst hj0
        go_wp2_with fail
        refine (other_any s _ Hs.out).mono ?_
        rintro e w1 ⟨rfl, hf1⟩
        obtain ⟨kq, tq, ev, hk6⟩ := otherV_sv s
        rw [ev]
        obtain ⟨hc1, hz1⟩ := hf1.cells
        unfold sv
        go_wp2
        exact bodyPost_ret (v := sv kq 0 0 tq) (by simp [results, Tryz.results197, go_sem, sv, mt, *]) rfl (SomeV.mk (fun h => absurd h hk6) (by repeat (first | (with_reducible exact Fr.refl _) | ((with_reducible refine Fr.set ?_ ?_ _); focus (simp; done)) | (with_reducible refine Fr.alloc ?_ _) | (with_reducible refine Fr.drew ?_) | (with_reducible refine Fr.step ?_ (by assumption)))))
      · have hj1 : ((j : Int) == 0) = false := by simp; omega
        clear hj0
        by_cases hy : 100000 < y
        · go_wp2_with fail
          refine (other_any s _ Hs.out).mono ?_
          rintro e w1 ⟨rfl, hf1⟩
          obtain ⟨kq, tq, ev, hk6⟩ := otherV_sv s
          rw [ev]
          obtain ⟨hc1, hz1⟩ := hf1.cells
          unfold sv
          go_wp2
          exact bodyPost_ret (v := sv kq 0 0 tq) (by simp [results, Tryz.results197, go_sem, sv, mt, *]) rfl (SomeV.mk (fun h => absurd h hk6) (by repeat (first | (with_reducible exact Fr.refl _) | ((with_reducible refine Fr.set ?_ ?_ _); focus (simp; done)) | (with_reducible refine Fr.alloc ?_ _) | (with_reducible refine Fr.drew ?_) | (with_reducible refine Fr.step ?_ (by assumption)))))
        · go_wp2_with fail
          refine (Frac_any (-x) y _ (by omega) (by omega) (by omega) (by omega)).mono ?_
          rintro e w1 ⟨kq, nq1, dq, tq, rfl, hb1, hf1⟩
          have Hb := Lib.hid hb1; clear hb1
          obtain ⟨hc1, hz1⟩ := hf1.cells
          unfold sv
          go_wp2
          exact bodyPost_ret (v := sv kq nq1 dq tq) (by simp [results, Tryz.results197, go_sem, sv, mt, *]) rfl (SomeV.mk Hb.out (by repeat (first | (with_reducible exact Fr.refl _) | ((with_reducible refine Fr.set ?_ ?_ _); focus (simp; done)) | (with_reducible refine Fr.alloc ?_ _) | (with_reducible refine Fr.drew ?_) | (with_reducible refine Fr.step ?_ (by assumption)))))
set_option maxRecDepth 100000 in
set_option maxHeartbeats 4000000 in
theorem Read_plus (s : ByteArray) (w : World) (hs : s.size ≤ maxLen) (h0 : 0 < s.size) (hm : ((s[0].toNat : Int) == 45) = false) :
    Calls Tryz.prog 197 #[.string s] w (SomeV w) := by
  have hs' := hs
  have Hs := Lib.hid hs; clear hs
  unfold maxLen at hs'
  go_enter Tryz.func197, Tryz.ntmps197
  go_wp2_with fail
  go_loop [3, 5, 6, 7, 8] (fun a n m d p => ReadRel s.size a n m d p) (fun a _ _ _ _ => s.size - (intOf a).toNat)
  case atStart => exact ⟨0, 0, 0, 1, false, by omega, by omega, by decide, by decide, by decide, by decide, rfl, rfl, rfl, rfl, rfl⟩
  case round =>
    obtain ⟨k, j, x, y, b, hk, hj, hx0, hx1, hy0, hy1, rfl, rfl, rfl, rfl, rfl⟩ := hrel
    have hP := pow12 hj
    have hxb : x < 1000000000000 := by omega
    have hyb : y ≤ 1000000000000 := by omega
    have Hx := Lib.hid hx1; clear hx1
    have Hy := Lib.hid hy1; clear hy1 hP
    by_cases hlt : k < s.size
    · obtain ⟨r1, r2⟩ := byte_range s[k]
      by_cases hA : 48 ≤ (s[k].toNat : Int) ∧ (s[k].toNat : Int) ≤ 57 ∧ j < 12
      · obtain ⟨a1, a2, a3⟩ := hA
        have hs1 := Lib.hid (read_step hx0 Hx.out a1 a2)
        have hs2 := Lib.hid (read_d hy0 Hy.out)
        have hs3 := Lib.hid (read_d' Hy.out)
        cases b
        · go_wp2
          go_round
          case rel => exact ⟨k + 1, j + 1, _, y, false, by omega, by omega, hs1.out.1, hs1.out.2, hy0, hs3.out, by go_num, rfl, by go_num, rfl, rfl⟩
          case measure => simp [intOf]; try omega
        · go_wp2
          go_round
          case rel => exact ⟨k + 1, j + 1, _, _, true, by omega, by omega, hs1.out.1, hs1.out.2, hs2.out.1, hs2.out.2, by go_num, rfl, by go_num, rfl, rfl⟩
          case measure => simp [intOf]; try omega
      · have Hk := Lib.hid hk; clear hk
        by_cases hB : (s[k].toNat : Int) = 46 ∧ b = false ∧ 0 < j ∧ k + 1 < s.size
        · obtain ⟨b1, rfl, b3, b4⟩ := hB
          have b1' : ((s[k].toNat : Int) == 46) = true := by simpa using b1
          have b5 : (s[k].toNat : Int) < 48 := by omega
          clear b1 hA
          go_wp2
          go_round
          case rel => exact ⟨k + 1, j, x, y, true, by omega, hj, hx0, Hx.out, hy0, Hy.out, by go_num, rfl, rfl, rfl, rfl⟩
          case measure => simp [intOf]; try omega
        · by_cases c1 : (s[k].toNat : Int) < 48
          · clear hA
            by_cases c2 : (s[k].toNat : Int) = 46
            · have c2' : ((s[k].toNat : Int) == 46) = true := by simpa using c2
              cases b
              · by_cases c3 : 0 < j
                · have c4 : ¬ (k + 1 < s.size) := fun h => hB ⟨c2, rfl, c3, h⟩
                  clear c2 hB
                  have c5 : (s.size : Int) ≤ (k : Int) + 1 := by omega
                  go_wp2_with fail
                  refine (other_any s _ Hs.out).mono ?_
                  rintro e w1 ⟨rfl, hf1⟩
                  obtain ⟨kq, tq, ev, hk6⟩ := otherV_sv s
                  rw [ev]
                  obtain ⟨hc1, hz1⟩ := hf1.cells
                  unfold sv
                  go_wp2
                  exact bodyPost_ret (v := sv kq 0 0 tq) (by simp [results, Tryz.results197, go_sem, sv, mt, *]) rfl (SomeV.mk (fun h => absurd h hk6) (by repeat (first | (with_reducible exact Fr.refl _) | ((with_reducible refine Fr.set ?_ ?_ _); focus (simp; done)) | (with_reducible refine Fr.alloc ?_ _) | (with_reducible refine Fr.drew ?_) | (with_reducible refine Fr.step ?_ (by assumption)))))
                · have c4 : j = 0 := by omega
                  subst c4
                  clear c2 hB
                  go_wp2_with fail
                  refine (other_any s _ Hs.out).mono ?_
                  rintro e w1 ⟨rfl, hf1⟩
                  obtain ⟨kq, tq, ev, hk6⟩ := otherV_sv s
                  rw [ev]
                  obtain ⟨hc1, hz1⟩ := hf1.cells
                  unfold sv
                  go_wp2
                  exact bodyPost_ret (v := sv kq 0 0 tq) (by simp [results, Tryz.results197, go_sem, sv, mt, *]) rfl (SomeV.mk (fun h => absurd h hk6) (by repeat (first | (with_reducible exact Fr.refl _) | ((with_reducible refine Fr.set ?_ ?_ _); focus (simp; done)) | (with_reducible refine Fr.alloc ?_ _) | (with_reducible refine Fr.drew ?_) | (with_reducible refine Fr.step ?_ (by assumption)))))
              · clear c2 hB
                go_wp2_with fail
                refine (other_any s _ Hs.out).mono ?_
                rintro e w1 ⟨rfl, hf1⟩
                obtain ⟨kq, tq, ev, hk6⟩ := otherV_sv s
                rw [ev]
                obtain ⟨hc1, hz1⟩ := hf1.cells
                unfold sv
                go_wp2
                exact bodyPost_ret (v := sv kq 0 0 tq) (by simp [results, Tryz.results197, go_sem, sv, mt, *]) rfl (SomeV.mk (fun h => absurd h hk6) (by repeat (first | (with_reducible exact Fr.refl _) | ((with_reducible refine Fr.set ?_ ?_ _); focus (simp; done)) | (with_reducible refine Fr.alloc ?_ _) | (with_reducible refine Fr.drew ?_) | (with_reducible refine Fr.step ?_ (by assumption)))))
            · have c2' : ((s[k].toNat : Int) == 46) = false := by simpa using c2
              clear c2 hB
              go_wp2_with fail
              refine (other_any s _ Hs.out).mono ?_
              rintro e w1 ⟨rfl, hf1⟩
              obtain ⟨kq, tq, ev, hk6⟩ := otherV_sv s
              rw [ev]
              obtain ⟨hc1, hz1⟩ := hf1.cells
              unfold sv
              go_wp2
              exact bodyPost_ret (v := sv kq 0 0 tq) (by simp [results, Tryz.results197, go_sem, sv, mt, *]) rfl (SomeV.mk (fun h => absurd h hk6) (by repeat (first | (with_reducible exact Fr.refl _) | ((with_reducible refine Fr.set ?_ ?_ _); focus (simp; done)) | (with_reducible refine Fr.alloc ?_ _) | (with_reducible refine Fr.drew ?_) | (with_reducible refine Fr.step ?_ (by assumption)))))
          · have c2' : ((s[k].toNat : Int) == 46) = false := by simp; omega
            clear hB
            by_cases c6 : (s[k].toNat : Int) ≤ 57
            · have c7 : 12 ≤ j := by omega
              clear hA
              go_wp2_with fail
              refine (other_any s _ Hs.out).mono ?_
              rintro e w1 ⟨rfl, hf1⟩
              obtain ⟨kq, tq, ev, hk6⟩ := otherV_sv s
              rw [ev]
              obtain ⟨hc1, hz1⟩ := hf1.cells
              unfold sv
              go_wp2
              exact bodyPost_ret (v := sv kq 0 0 tq) (by simp [results, Tryz.results197, go_sem, sv, mt, *]) rfl (SomeV.mk (fun h => absurd h hk6) (by repeat (first | (with_reducible exact Fr.refl _) | ((with_reducible refine Fr.set ?_ ?_ _); focus (simp; done)) | (with_reducible refine Fr.alloc ?_ _) | (with_reducible refine Fr.drew ?_) | (with_reducible refine Fr.step ?_ (by assumption)))))
            · have c8 : 57 < (s[k].toNat : Int) := by omega
              clear hA c6
              go_wp2_with fail
              refine (other_any s _ Hs.out).mono ?_
              rintro e w1 ⟨rfl, hf1⟩
              obtain ⟨kq, tq, ev, hk6⟩ := otherV_sv s
              rw [ev]
              obtain ⟨hc1, hz1⟩ := hf1.cells
              unfold sv
              go_wp2
              exact bodyPost_ret (v := sv kq 0 0 tq) (by simp [results, Tryz.results197, go_sem, sv, mt, *]) rfl (SomeV.mk (fun h => absurd h hk6) (by repeat (first | (with_reducible exact Fr.refl _) | ((with_reducible refine Fr.set ?_ ?_ _); focus (simp; done)) | (with_reducible refine Fr.alloc ?_ _) | (with_reducible refine Fr.drew ?_) | (with_reducible refine Fr.step ?_ (by assumption)))))
    · by_cases hj0 : j = 0
      · subst hj0
        go_wp2_with fail
        refine (other_any s _ Hs.out).mono ?_
        rintro e w1 ⟨rfl, hf1⟩
        obtain ⟨kq, tq, ev, hk6⟩ := otherV_sv s
        rw [ev]
        obtain ⟨hc1, hz1⟩ := hf1.cells
        unfold sv
        go_wp2
        exact bodyPost_ret (v := sv kq 0 0 tq) (by simp [results, Tryz.results197, go_sem, sv, mt, *]) rfl (SomeV.mk (fun h => absurd h hk6) (by repeat (first | (with_reducible exact Fr.refl _) | ((with_reducible refine Fr.set ?_ ?_ _); focus (simp; done)) | (with_reducible refine Fr.alloc ?_ _) | (with_reducible refine Fr.drew ?_) | (with_reducible refine Fr.step ?_ (by assumption)))))
      · have hj1 : ((j : Int) == 0) = false := by simp; omega
        clear hj0
        by_cases hy : 100000 < y
        · go_wp2_with fail
          refine (other_any s _ Hs.out).mono ?_
          rintro e w1 ⟨rfl, hf1⟩
          obtain ⟨kq, tq, ev, hk6⟩ := otherV_sv s
          rw [ev]
          obtain ⟨hc1, hz1⟩ := hf1.cells
          unfold sv
          go_wp2
          exact bodyPost_ret (v := sv kq 0 0 tq) (by simp [results, Tryz.results197, go_sem, sv, mt, *]) rfl (SomeV.mk (fun h => absurd h hk6) (by repeat (first | (with_reducible exact Fr.refl _) | ((with_reducible refine Fr.set ?_ ?_ _); focus (simp; done)) | (with_reducible refine Fr.alloc ?_ _) | (with_reducible refine Fr.drew ?_) | (with_reducible refine Fr.step ?_ (by assumption)))))
        · go_wp2_with fail
          refine (Frac_any x y _ (by omega) (by omega) (by omega) (by omega)).mono ?_
          rintro e w1 ⟨kq, nq1, dq, tq, rfl, hb1, hf1⟩
          have Hb := Lib.hid hb1; clear hb1
          obtain ⟨hc1, hz1⟩ := hf1.cells
          unfold sv
          go_wp2
          exact bodyPost_ret (v := sv kq nq1 dq tq) (by simp [results, Tryz.results197, go_sem, sv, mt, *]) rfl (SomeV.mk Hb.out (by repeat (first | (with_reducible exact Fr.refl _) | ((with_reducible refine Fr.set ?_ ?_ _); focus (simp; done)) | (with_reducible refine Fr.alloc ?_ _) | (with_reducible refine Fr.drew ?_) | (with_reducible refine Fr.step ?_ (by assumption)))))
set_option maxRecDepth 100000 in
set_option maxHeartbeats 4000000 in
theorem Read_empty (s : ByteArray) (w : World) (hs : s.size ≤ maxLen) (h0 : s.size = 0) :
    Calls Tryz.prog 197 #[.string s] w (SomeV w) := by
  have hs' := hs
  have Hs := Lib.hid hs; clear hs
  unfold maxLen at hs'
  go_enter Tryz.func197, Tryz.ntmps197
  go_wp2_with fail
  go_loop [3, 5, 6, 7, 8] (fun a n m d p => ReadRel s.size a n m d p) (fun a _ _ _ _ => s.size - (intOf a).toNat)
  case atStart => exact ⟨0, 0, 0, 1, false, by omega, by omega, by decide, by decide, by decide, by decide, rfl, rfl, rfl, rfl, rfl⟩
  case round =>
    obtain ⟨k, j, x, y, b, hk, hj, hx0, hx1, hy0, hy1, rfl, rfl, rfl, rfl, rfl⟩ := hrel
    have hP := pow12 hj
    have hxb : x < 1000000000000 := by omega
    have hyb : y ≤ 1000000000000 := by omega
    have Hx := Lib.hid hx1; clear hx1
    have Hy := Lib.hid hy1; clear hy1 hP
    by_cases hlt : k < s.size
    · exact absurd hlt (by omega)
    · by_cases hj0 : j = 0
      · subst hj0
        go_wp2_with fail
        refine (other_any s _ Hs.out).mono ?_
        rintro e w1 ⟨rfl, hf1⟩
        obtain ⟨kq, tq, ev, hk6⟩ := otherV_sv s
        rw [ev]
        obtain ⟨hc1, hz1⟩ := hf1.cells
        unfold sv
        go_wp2
        exact bodyPost_ret (v := sv kq 0 0 tq) (by simp [results, Tryz.results197, go_sem, sv, mt, *]) rfl (SomeV.mk (fun h => absurd h hk6) (by repeat (first | (with_reducible exact Fr.refl _) | ((with_reducible refine Fr.set ?_ ?_ _); focus (simp; done)) | (with_reducible refine Fr.alloc ?_ _) | (with_reducible refine Fr.drew ?_) | (with_reducible refine Fr.step ?_ (by assumption)))))
      · have hj1 : ((j : Int) == 0) = false := by simp; omega
        clear hj0
        by_cases hy : 100000 < y
        · go_wp2_with fail
          refine (other_any s _ Hs.out).mono ?_
          rintro e w1 ⟨rfl, hf1⟩
          obtain ⟨kq, tq, ev, hk6⟩ := otherV_sv s
          rw [ev]
          obtain ⟨hc1, hz1⟩ := hf1.cells
          unfold sv
          go_wp2
          exact bodyPost_ret (v := sv kq 0 0 tq) (by simp [results, Tryz.results197, go_sem, sv, mt, *]) rfl (SomeV.mk (fun h => absurd h hk6) (by repeat (first | (with_reducible exact Fr.refl _) | ((with_reducible refine Fr.set ?_ ?_ _); focus (simp; done)) | (with_reducible refine Fr.alloc ?_ _) | (with_reducible refine Fr.drew ?_) | (with_reducible refine Fr.step ?_ (by assumption)))))
        · go_wp2_with fail
          refine (Frac_any x y _ (by omega) (by omega) (by omega) (by omega)).mono ?_
          rintro e w1 ⟨kq, nq1, dq, tq, rfl, hb1, hf1⟩
          have Hb := Lib.hid hb1; clear hb1
          obtain ⟨hc1, hz1⟩ := hf1.cells
          unfold sv
          go_wp2
          exact bodyPost_ret (v := sv kq nq1 dq tq) (by simp [results, Tryz.results197, go_sem, sv, mt, *]) rfl (SomeV.mk Hb.out (by repeat (first | (with_reducible exact Fr.refl _) | ((with_reducible refine Fr.set ?_ ?_ _); focus (simp; done)) | (with_reducible refine Fr.alloc ?_ _) | (with_reducible refine Fr.drew ?_) | (with_reducible refine Fr.step ?_ (by assumption)))))
theorem Read_any (s : ByteArray) (w : World) (hs : s.size ≤ maxLen) : Calls Tryz.prog 197 #[.string s] w (SomeV w) := by
  by_cases h0 : 0 < s.size
  · cases hm : ((s[0].toNat : Int) == 45)
    · exact Read_plus s w hs h0 hm
    · exact Read_minus s w hs h0 hm
  · exact Read_empty s w hs (by omega)
end Go.Proofs.YtnpnclhjfemldaaGreatDoor
