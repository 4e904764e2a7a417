import Derived.Test.YtnpnclhjfemldaaGreatDoorW1
set_option linter.unusedSimpArgs false
set_option linter.unusedVariables false
/- What the reference asks of SWITCH's arguments. -/
namespace Go.Proofs.YtnpnclhjfemldaaGreatDoor
open Go.RowKit
def keyI (m i : Nat) : Bool := i == 0 || (i % 2 == 1 && decide (i + 1 < m))
def kAll (a : List Int) (m : Nat) : Nat → Bool
  | 0 => true
  | q + 1 => kAll a m q && (!keyI m q || shortB (a.getD q 0))
set_option maxRecDepth 100000 in
set_option maxHeartbeats 1000000 in
theorem fitsSwitch_few (A : Option Addr) (cap m : Nat) (w : World) (hm : m < 3) : Calls Tryz.prog 139 #[.slice A m cap] w fun e w' => e = .returned (.bool false) ∧ Fr w w' := by
  have hmi : (m : Int) < 3 := by omega
  go_enter Tryz.func139, Tryz.ntmps139
  go_wp2
  go_ret
  exact ⟨rfl, (by repeat (first | (with_reducible exact Fr.refl _) | ((with_reducible refine Fr.set ?_ ?_ _); focus (simp; done)) | (with_reducible refine Fr.alloc ?_ _) | (with_reducible refine Fr.drew ?_) | (with_reducible refine Fr.step ?_ (by assumption))))⟩
set_option maxRecDepth 100000 in
set_option maxHeartbeats 1000000 in
theorem fitsSwitch_unsure (A : Option Addr) (cap : Nat) (l : List SVal) (w : World) (hv : VL w A l) (hk : ∀ x ∈ l, (∃ n, x = nv n) ∨ x = uv) (h3 : 3 ≤ l.length) (hu : l.all givenB = false) :
    Calls Tryz.prog 139 #[.slice A l.length cap] w fun e w' => e = .returned (.bool false) ∧ Fr w w' := by
  have HE := Lib.hid (fun w hv => every_fn_given givenB A cap l w hv (given_any hk))
  have Hv := Lib.hid hv; clear hv
  have Hu := Lib.hid hu; clear hu
  have hl := Hv.out.1
  obtain ⟨m, hm⟩ : ∃ m, m = l.length := ⟨_, rfl⟩
  rw [← hm] at HE h3 hl ⊢
  have hmi : ¬ (m : Int) < 3 := by omega
  clear hk hm
  go_enter Tryz.func139, Tryz.ntmps139
  go_wp2_with fail
  refine (HE.out _ (Hv.out.fr (by repeat (first | (with_reducible exact Fr.refl _) | ((with_reducible refine Fr.set ?_ ?_ _); focus (simp; done)) | (with_reducible refine Fr.alloc ?_ _) | (with_reducible refine Fr.drew ?_) | (with_reducible refine Fr.step ?_ (by assumption)))))).mono ?_
  rintro e w1 ⟨rfl, hf1⟩
  rw [Hu.out]
  go_wp2
  go_ret
  exact ⟨rfl, (by repeat (first | (with_reducible exact Fr.refl _) | ((with_reducible refine Fr.set ?_ ?_ _); focus (simp; done)) | (with_reducible refine Fr.alloc ?_ _) | (with_reducible refine Fr.drew ?_) | (with_reducible refine Fr.step ?_ (by assumption))))⟩
set_option maxRecDepth 100000 in
set_option maxHeartbeats 2000000 in
theorem fitsSwitch_num (A : Option Addr) (cap : Nat) (a : List Int) (w : World) (hv : VL w A (a.map nv)) (h3 : 3 ≤ a.length) :
    Calls Tryz.prog 139 #[.slice A a.length cap] w fun e w' => e = .returned (.bool (kAll a a.length a.length)) ∧ Fr w w' := by
  have hk : ∀ x ∈ a.map nv, (∃ n, x = nv n) ∨ x = uv := by intro x hx; obtain ⟨n, _, rfl⟩ := List.mem_map.1 hx; exact .inl ⟨n, rfl⟩
  have hu : (a.map nv).all givenB = true := by rw [List.all_map, List.all_eq_true]; intro x _; rfl
  have HE := Lib.hid (fun w hv => every_fn_given givenB A cap (a.map nv) w hv (given_any hk))
  rw [hu, List.length_map] at HE
  have Hv := Lib.hid hv; clear hv
  have hl := Hv.out.1
  rw [List.length_map] at hl
  obtain ⟨m, hm⟩ : ∃ m, m = a.length := ⟨_, rfl⟩
  have Hm := Lib.hid hm
  rw [← hm] at hl h3 HE ⊢
  have hmi : ¬ (m : Int) < 3 := by omega
  clear hk hu hm
  go_enter Tryz.func139, Tryz.ntmps139
  go_wp2_with fail
  refine (HE.out _ (Hv.out.fr (by repeat (first | (with_reducible exact Fr.refl _) | ((with_reducible refine Fr.set ?_ ?_ _); focus (simp; done)) | (with_reducible refine Fr.alloc ?_ _) | (with_reducible refine Fr.drew ?_) | (with_reducible refine Fr.step ?_ (by assumption)))))).mono ?_
  rintro e w1 ⟨rfl, hf1⟩
  go_wp2
  go_loopw [3, 4, 5] (fun nb wd i wr => ∃ q : Nat, q ≤ m ∧ i = .int .i64 q ∧ nb = .bool (kAll a m q) ∧ wd = .bool (decide (q = 0)) ∧ Fr w wr) (fun _ _ i _ => m - (intOf i).toNat)
  case atStart => exact ⟨0, Nat.zero_le _, rfl, rfl, rfl, hf1⟩
  case round =>
    obtain ⟨q, hq, rfl, rfl, rfl, hf⟩ := hrel
    by_cases hqm : q < m
    · have hqa : q < (a.map nv).length := by rw [List.length_map, ← Hm.out]; exact hqm
      obtain ⟨gb, rfl, hg, c0, c1, c2, c3, c4⟩ := (Hv.out.fr hf).at hqa
      have hae : (a.map nv)[q] = nv (a.getD q 0) := by rw [List.getElem_map, List.getD_eq_getElem?_getD, List.getElem?_eq_getElem (by rw [← Hm.out]; exact hqm)]; rfl
      simp only [hae, nv] at c0 c1 c2 c3 c4
      have hst := Lib.hid (show kAll a m (q + 1) = (kAll a m q && (!keyI m q || shortB (a.getD q 0))) from rfl)
      clear hae
      generalize a.getD q 0 = n at *
      have HS := Lib.hid (short_num n)
      obtain ⟨kb, hkb⟩ : ∃ kb, kb = kAll a m q := ⟨_, rfl⟩
      rw [← hkb] at hst ⊢
      have Hkb := Lib.hid hkb; clear hkb
      have hwr : ((q : Int) + 1) ≤ 1000001 := by omega
      by_cases hq0 : q = 0
      · subst hq0
        have hkey : keyI m 0 = true := rfl
        obtain rfl : kb = true := Hkb.out
        go_wp2_with fail
        refine (HS.out _).mono ?_
        rintro e w2 ⟨rfl, hf2⟩
        have hf3 : Fr w w2 := hf.step hf2
        obtain ⟨hc2, hz2⟩ := hf2.cells
        have hst1 := hst.out
        rw [hkey] at hst1
        have Hst := Lib.hid hst1; clear hst1
        generalize shortB n = sb at *
        have HS2 := HS; clear HS2
        go_wp2_with fail
        go_quiet (fail)
        go_wp2
        exact ⟨⟨1, by omega, rfl, by rw [Hst.out]; simp, by simp, hf3.drewN _⟩, by simp [intOf]; omega⟩
      · have hd0 : decide (q = 0) = false := decide_eq_false hq0
        have hd1 : ((q : Int) == 0) = false := by simp; omega
        rw [hd0]
        by_cases hodd : q % 2 = 1 ∧ q + 1 < m
        · have hkey : keyI m q = true := by simp [keyI, hodd.1, hodd.2]
          have ho1 : (q : Int) % 2 = 1 := by omega
          have ho2 : (q : Int) + 1 < (m : Int) := by omega
          have hst1 := hst.out
          rw [hkey] at hst1
          have Hst := Lib.hid hst1; clear hst1
          cases kb
          · go_wp2_with fail
            go_quiet (fail)
            go_wp2
            exact ⟨⟨q + 1, by omega, by simp, by rw [Hst.out]; simp, by simp, hf.drewN _⟩, by simp [intOf]; omega⟩
          · go_wp2_with fail
            refine (HS.out _).mono ?_
            rintro e w2 ⟨rfl, hf2⟩
            have hf3 : Fr w w2 := hf.step hf2
            obtain ⟨hc2, hz2⟩ := hf2.cells
            generalize shortB n = sb at *
            go_wp2_with fail
            go_quiet (fail)
            go_wp2
            exact ⟨⟨q + 1, by omega, by simp, by rw [Hst.out]; simp, by simp, hf3.drewN _⟩, by simp [intOf]; omega⟩
        · have hkey : keyI m q = false := by simp [keyI, hq0]; omega
          have hst1 := hst.out
          rw [hkey] at hst1
          have Hst := Lib.hid hst1; clear hst1
          by_cases ho : q % 2 = 1
          · have ho1 : (q : Int) % 2 = 1 := by omega
            have ho2 : ¬ (q : Int) + 1 < (m : Int) := by omega
            go_wp2
            go_roundw
            case rel => exact ⟨q + 1, by omega, by simp, by rw [Hst.out]; simp, by simp, hf⟩
            case measure => simp [intOf]; omega
          · have ho1 : (q : Int) % 2 = 0 := by omega
            go_wp2
            go_roundw
            case rel => exact ⟨q + 1, by omega, by simp, by rw [Hst.out]; simp, by simp, hf⟩
            case measure => simp [intOf]; omega
    · have hqe : q = m := by omega
      subst hqe
      have hq0 : decide (q = 0) = false := decide_eq_false (by omega)
      rw [hq0]
      cases hka : kAll a q q
      · go_wp2
        go_ret
        exact ⟨by rw [hka]; rfl, hf⟩
      · go_wp2
        go_ret
        exact ⟨by rw [hka]; rfl, hf⟩
end Go.Proofs.YtnpnclhjfemldaaGreatDoor
