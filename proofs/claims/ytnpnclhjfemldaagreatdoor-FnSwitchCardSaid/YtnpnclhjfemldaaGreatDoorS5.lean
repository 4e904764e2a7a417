import Derived.Test.YtnpnclhjfemldaaGreatDoorS2
set_option linter.unusedSimpArgs false
set_option linter.unusedVariables false
namespace Go.Proofs.YtnpnclhjfemldaaGreatDoor
open Go.RowKit
theorem tdiv_le (n d : Int) : -(n.natAbs : Int) ≤ n.tdiv d ∧ n.tdiv d ≤ (n.natAbs : Int) := by
  have h : (n.tdiv d).natAbs ≤ n.natAbs := by rw [Int.natAbs_tdiv]; exact Nat.div_le_self _ _
  omega
theorem wrap_tdiv (n d : Int) (B : Int) (h0 : -B ≤ n) (h1 : n ≤ B) : -B ≤ n.tdiv d ∧ n.tdiv d ≤ B := by
  have := tdiv_le n d
  omega
set_option maxRecDepth 100000 in
set_option maxHeartbeats 1000000 in
theorem Frac_any (n d : Int) (w : World) (h0 : -1000000000000 ≤ n) (h1 : n ≤ 1000000000000) (hd0 : 1 ≤ d) (hd1 : d ≤ 100000) :
    Calls Tryz.prog 147 #[.int .i64 n, .int .i64 d] w (SomeV w) := by
  have hdz : (d == 0) = false := by simp; omega
  have hw := Lib.hid (wrap_tdiv (n * 16) d 16000000000000 (by omega) (by omega))
  by_cases hr : ((n * 16).tmod d != 0) = true
  · go_enter Tryz.func147, Tryz.ntmps147
    go_wp2_with fail
    refine (Doubt_any _).mono ?_
    rintro e w1 ⟨rfl, hf1⟩
    obtain ⟨hc1, hz1⟩ := hf1.cells
    unfold sv
    go_wp2
    exact bodyPost_ret (v := sv 6 0 0 mt) (by simp [results, Tryz.results147, go_sem, sv, mt, *]) rfl (SomeV.mk (by decide) (by repeat (first | (with_reducible exact Fr.refl _) | ((with_reducible refine Fr.set ?_ ?_ _); focus (simp; done)) | (with_reducible refine Fr.alloc ?_ _) | (with_reducible refine Fr.drew ?_) | (with_reducible refine Fr.step ?_ (by assumption)))))
  · rw [Bool.not_eq_true] at hr
    go_enter Tryz.func147, Tryz.ntmps147
    go_wp2_with fail
    go_loop [0, 1] (fun a b => ∃ m e : Int, -16000000000000 ≤ m ∧ m ≤ 16000000000000 ∧ 1 ≤ e ∧ e ≤ 16 ∧ a = .int .i64 m ∧ b = .int .i64 e) (fun _ b => (intOf b).toNat)
    case atStart => exact ⟨_, 16, hw.out.1, hw.out.2, by decide, by decide, rfl, rfl⟩
    case round =>
      obtain ⟨m, e, hm0, hm1, he0, he1, rfl, rfl⟩ := hrel
      clear hw hr hdz
      have hw2 := Lib.hid (wrap_tdiv m 2 16000000000000 hm0 hm1)
      by_cases he : 1 < e
      · rcases Int.lt_or_le m 0 with hm | hm
        · by_cases hp : (m.tmod 2 == 0) = true
          · go_wp2
            go_round
            case rel => exact ⟨_, e / 2, hw2.out.1, hw2.out.2, by omega, by omega, rfl, rfl⟩
            case measure => simp [intOf]; try omega
          · rw [Bool.not_eq_true] at hp
            by_cases hg : 99999999999 < m
            · exact absurd hg (by omega)
            · by_cases hl : m < -99999999999
              · go_wp2_with fail
                refine (Doubt_any _).mono ?_
                rintro e w1 ⟨rfl, hf1⟩
                obtain ⟨hc1, hz1⟩ := hf1.cells
                unfold sv
                go_wp2
                exact bodyPost_ret (v := sv 6 0 0 mt) (by simp [results, Tryz.results147, go_sem, sv, mt, *]) rfl (SomeV.mk (by decide) (by repeat (first | (with_reducible exact Fr.refl _) | ((with_reducible refine Fr.set ?_ ?_ _); focus (simp; done)) | (with_reducible refine Fr.alloc ?_ _) | (with_reducible refine Fr.drew ?_) | (with_reducible refine Fr.step ?_ (by assumption)))))
              · go_wp2
                exact bodyPost_ret (v := sv 1 m e mt) (by simp [results, Tryz.results147, go_sem, sv, mt, *]) rfl (SomeV.mk (by omega) (by repeat (first | (with_reducible exact Fr.refl _) | ((with_reducible refine Fr.set ?_ ?_ _); focus (simp; done)) | (with_reducible refine Fr.alloc ?_ _) | (with_reducible refine Fr.drew ?_) | (with_reducible refine Fr.step ?_ (by assumption)))))
        · by_cases hp : (m % 2 == 0) = true
          · have hm3 : 0 ≤ m / 2 ∧ m / 2 ≤ 16000000000000 := by omega
            go_wp2
            go_round
            case rel => exact ⟨_, e / 2, by omega, hm3.2, by omega, by omega, rfl, rfl⟩
            case measure => simp [intOf]; try omega
          · rw [Bool.not_eq_true] at hp
            by_cases hg : 99999999999 < m
            · go_wp2_with fail
              refine (Doubt_any _).mono ?_
              rintro e w1 ⟨rfl, hf1⟩
              obtain ⟨hc1, hz1⟩ := hf1.cells
              unfold sv
              go_wp2
              exact bodyPost_ret (v := sv 6 0 0 mt) (by simp [results, Tryz.results147, go_sem, sv, mt, *]) rfl (SomeV.mk (by decide) (by repeat (first | (with_reducible exact Fr.refl _) | ((with_reducible refine Fr.set ?_ ?_ _); focus (simp; done)) | (with_reducible refine Fr.alloc ?_ _) | (with_reducible refine Fr.drew ?_) | (with_reducible refine Fr.step ?_ (by assumption)))))
            · by_cases hl : m < -99999999999
              · exact absurd hl (by omega)
              · go_wp2
                exact bodyPost_ret (v := sv 1 m e mt) (by simp [results, Tryz.results147, go_sem, sv, mt, *]) rfl (SomeV.mk (by omega) (by repeat (first | (with_reducible exact Fr.refl _) | ((with_reducible refine Fr.set ?_ ?_ _); focus (simp; done)) | (with_reducible refine Fr.alloc ?_ _) | (with_reducible refine Fr.drew ?_) | (with_reducible refine Fr.step ?_ (by assumption)))))
      · by_cases hg : 99999999999 < m
        · go_wp2_with fail
          refine (Doubt_any _).mono ?_
          rintro e w1 ⟨rfl, hf1⟩
          obtain ⟨hc1, hz1⟩ := hf1.cells
          unfold sv
          go_wp2
          exact bodyPost_ret (v := sv 6 0 0 mt) (by simp [results, Tryz.results147, go_sem, sv, mt, *]) rfl (SomeV.mk (by decide) (by repeat (first | (with_reducible exact Fr.refl _) | ((with_reducible refine Fr.set ?_ ?_ _); focus (simp; done)) | (with_reducible refine Fr.alloc ?_ _) | (with_reducible refine Fr.drew ?_) | (with_reducible refine Fr.step ?_ (by assumption)))))
        · by_cases hl : m < -99999999999
          · go_wp2_with fail
            refine (Doubt_any _).mono ?_
            rintro e w1 ⟨rfl, hf1⟩
            obtain ⟨hc1, hz1⟩ := hf1.cells
            unfold sv
            go_wp2
            exact bodyPost_ret (v := sv 6 0 0 mt) (by simp [results, Tryz.results147, go_sem, sv, mt, *]) rfl (SomeV.mk (by decide) (by repeat (first | (with_reducible exact Fr.refl _) | ((with_reducible refine Fr.set ?_ ?_ _); focus (simp; done)) | (with_reducible refine Fr.alloc ?_ _) | (with_reducible refine Fr.drew ?_) | (with_reducible refine Fr.step ?_ (by assumption)))))
          · go_wp2
            exact bodyPost_ret (v := sv 1 m e mt) (by simp [results, Tryz.results147, go_sem, sv, mt, *]) rfl (SomeV.mk (by omega) (by repeat (first | (with_reducible exact Fr.refl _) | ((with_reducible refine Fr.set ?_ ?_ _); focus (simp; done)) | (with_reducible refine Fr.alloc ?_ _) | (with_reducible refine Fr.drew ?_) | (with_reducible refine Fr.step ?_ (by assumption)))))
end Go.Proofs.YtnpnclhjfemldaaGreatDoor
