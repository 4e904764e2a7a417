import Derived.Test.YtnpnclhjfemldaaGreatDoorW3
import Derived.Test.YtnpnclhjfemldaaGreatDoorW6
set_option linter.unusedSimpArgs false
set_option linter.unusedVariables false
/- agrees of SWITCH over whole numbers, all of it. -/
namespace Go.Proofs.YtnpnclhjfemldaaGreatDoor
open Go.RowKit
open Fl
open Ieee (double)
theorem natAbs_swVal {a : List Int} (hb : ∀ x ∈ a, x.natAbs ≤ 99999999999) : ∀ v, swVal (fun i => a.getD i 0) a.length = some v → v.natAbs ≤ 99999999999 := by
  have hg : ∀ i, (a.getD i 0).natAbs ≤ 99999999999 := by
    intro i
    rw [List.getD_eq_getElem?_getD]
    by_cases hi : i < a.length
    · rw [List.getElem?_eq_getElem hi]; exact hb _ (List.getElem_mem hi)
    · rw [List.getElem?_eq_none (by omega)]; simp
  generalize a.length = m
  have hp : ∀ k q v, pick (fun i => a.getD i 0) k q = some v → v.natAbs ≤ 99999999999 := by
    intro k
    induction k with
    | zero => intro q v h; simp [pick] at h
    | succ k ih =>
      intro q v h
      simp only [pick] at h
      split at h
      · simp only [Option.some.injEq] at h; rw [← h]; exact hg _
      · exact ih _ _ h
  intro v h
  unfold swVal at h
  split at h
  · next v' hv' => simp only [Option.some.injEq] at h; rw [← h]; exact hp _ _ _ hv'
  · split at h
    · simp only [Option.some.injEq] at h; rw [← h]; exact hg _
    · simp at h
theorem kAll_key {a : List Int} {m : Nat} : ∀ q, kAll a m q = true → ∀ i, i < q → keyI m i = true → shortB (a.getD i 0) = true := by
  intro q
  induction q with
  | zero => intro _ i hi; omega
  | succ q ih =>
    intro h i hi hk
    simp only [kAll, Bool.and_eq_true] at h
    by_cases e : i = q
    · subst e
      have := h.2
      rw [hk] at this
      simpa using this
    · exact ih h.1 i (by omega) hk
theorem key_bound {a : List Int} (h3 : 3 ≤ a.length) (h : kAll a a.length a.length = true) : ∀ i, (i = 0 ∨ i % 2 = 1 ∧ i + 1 < a.length) → (a.getD i 0).natAbs < 1000000 := by
  intro i hi
  have hk : keyI a.length i = true := by
    unfold keyI
    rcases hi with rfl | ⟨h1, h2⟩
    · rfl
    · simp [h1, h2]
  have := kAll_key _ h i (by rcases hi with rfl | h2 <;> omega) hk
  unfold shortB at this
  rw [Bool.and_eq_true] at this
  have h1 := of_decide_eq_true this.1
  have h2 := of_decide_eq_true this.2
  omega
theorem inner_nums {a : List Int} (hb : ∀ x ∈ a, x.natAbs ≤ 99999999999) : ∀ x ∈ (a.map nv).map ovN, ∀ w, Calls Tryz.prog 42 #[x.v] w fun e w' => e = .returned (.agg (fvN x)) ∧ Fr w w' := by
  intro x hx w
  obtain ⟨y, hy, rfl⟩ := List.mem_map.1 hx
  obtain ⟨n, hn, rfl⟩ := List.mem_map.1 hy
  have := hb n hn
  exact innerArg_num n w (by omega)
theorem fv_nums (a : List Int) : ((a.map nv).map ovN).map (fun x => Value.agg (fvN x)) = a.map numFa := by
  rw [List.map_map, List.map_map]; rfl
theorem implSWITCH_num (hM : MulC) (hLc : LenC) (hNc : NumC) (hFc : FmtC) (A : Option Addr) (cap : Nat) (a : List Int) (w : World) (hv : IL w A ((a.map nv).map ovN)) (h3 : 3 ≤ a.length) (h32 : a.length ≤ 32)
    (hb : ∀ x ∈ a, x.natAbs ≤ 99999999999) (hkey : ∀ i, (i = 0 ∨ i % 2 = 1 ∧ i + 1 < a.length) → (a.getD i 0).natAbs < 1000000) (ht : Tabs w) (k : Int) (x : Nat) (u : ByteArray)
    (hd : ∀ w, Calls Tryz.prog 20 #[optFa (swVal (fun i => a.getD i 0) a.length)] w fun e w' => e = .returned (iv k x u) ∧ Fr w w') :
    Calls Tryz.prog 6 #[.slice A a.length cap] w fun e w' => e = .returned (iv k x u) ∧ Fr w w' := by
  have hm : ∀ f w p bs, Tabs w → LS w p bs (((a.map nv).map ovN).map fun x => .agg (fvN x)) → Calls Tryz.prog 22 #[.pointer (some ⟨f, 0, none⟩), .pointer (some ⟨p, 0, none⟩)] w fun e w' => e = .returned (optFa (swVal (fun i => a.getD i 0) a.length)) ∧ Fr w w' := by
    intro f w p bs hT hL
    rw [fv_nums] at hL
    rcases Nat.mod_two_eq_zero_or_one (a.length - 1) with hp | hp
    · exact SWITCHm_even hM hLc hNc hFc _ w p bs a hL h3 h32 hkey hp hT.1 hT.2
    · exact SWITCHm_odd hM hLc hNc hFc _ w p bs a hL h3 h32 hkey hp hT.1 hT.2
  have hl : ((a.map nv).map ovN).length = a.length := by simp
  have hD : ∀ A cap w, Tabs w → IL w A ((a.map nv).map ovN) → Calls Tryz.prog 14 #[.slice A a.length cap] w fun e w' => e = .returned (iv k x u) ∧ Fr w w' := by
    intro A cap w hT hI
    have := DoorSWITCH_t Tabs (fun _ _ h hf => h.fr hf) A cap ((a.map nv).map ovN) fvN w _ k x u hI (by omega) hT (inner_nums hb) hm hd
    rwa [hl] at this
  have := implSWITCH_t Tabs (fun _ _ h hf => h.fr hf) A cap ((a.map nv).map ovN) w k x u hv ht (by rw [hl]; exact hD)
  rwa [hl] at this
theorem of_nums {a : List Int} (hb : ∀ x ∈ a, x.natAbs ≤ 99999999999) : ∀ x ∈ a.map nv, ∀ w, Calls Tryz.prog 19 #[x.v] w fun e w' => e = .returned (ovN x).v ∧ Fr w w' := by
  intro x hx w
  obtain ⟨n, hn, rfl⟩ := List.mem_map.1 hx
  have := hb n hn
  exact of_num n w (by omega)
theorem short_nums (a : List Int) : Short (a.map argV) := by
  intro x hx
  obtain ⟨n, _, rfl⟩ := List.mem_map.1 hx
  unfold argV
  split <;> exact Nat.zero_le _
theorem arg_cases (a : List Int) : ∀ x ∈ a.map argV, (∃ n, x = nv n) ∨ x = uv := by
  intro x hx
  obtain ⟨n, _, rfl⟩ := List.mem_map.1 hx
  unfold argV
  split
  · exact .inr rfl
  · exact .inl ⟨_, rfl⟩
/-- The reference says nothing of arguments that do not fit. -/
theorem Call_no (A : Option Addr) (cap : Nat) (l : List SVal) (w : World) (hv : VL w A l) (hs : Short l)
    (hF : ∀ w, VL w A l → Calls Tryz.prog 139 #[.slice A l.length cap] w fun e w' => e = .returned (.bool false) ∧ Fr w w') :
    Calls Tryz.prog 8 #[.string nmSWITCH, .slice A l.length cap] w fun e w' => e = .returned (sv 6 0 0 mt) ∧ Fr w w' :=
  Call_SWITCH A cap l 6 0 0 mt w hv fun w hv => CallOver_SWITCH_no A cap l w hv hs hF
set_option maxHeartbeats 1000000 in
theorem agreesSWITCH (hM : MulC) (hLc : LenC) (hNc : NumC) (hFc : FmtC) (A : Option Addr) (cap : Nat) (a : List Int) (w : World) (hv : VL w A (a.map argV)) (h0 : 0 < a.length) (h32 : a.length ≤ 32) (ht : Tabs w) :
    Calls Tryz.prog 5 #[.func (.func 6) #[] #[], .string nmSWITCH, .slice A a.length cap] w fun e w' => e = .returned (.bool true) ∧ Fr w w' := by
  have hl : (a.map argV).length = a.length := by simp
  have hTr : ∀ w w', Tabs w → Fr w w' → Tabs w' := fun _ _ h hf => h.fr hf
  by_cases hbad : ∃ i, ∃ h : i < a.length, argV a[i] = uv
  · obtain ⟨i, hi, hbi⟩ := hbad
    have hcall : ∀ w, VL w A (a.map argV) → Calls Tryz.prog 8 #[.string nmSWITCH, .slice A (a.map argV).length cap] w fun e w' => e = .returned (sv 6 0 0 mt) ∧ Fr w w' := by
      intro w hv
      refine Call_no A cap (a.map argV) w hv (short_nums a) fun w hv => ?_
      by_cases h3 : 3 ≤ (a.map argV).length
      · refine fitsSwitch_unsure A cap _ w hv (arg_cases a) h3 ?_
        rw [List.all_eq_false]
        exact ⟨uv, by rw [← hbi]; exact List.mem_map.2 ⟨a[i], List.getElem_mem hi, rfl⟩, by simp [givenB, uv]⟩
      · exact fitsSwitch_few A cap _ w (by omega)
    have := agreesSWITCH_unsure A cap (a.map argV) 6 0 0 mt w hv (by intro x hx; rcases arg_cases a x hx with ⟨n, rfl⟩ | rfl <;> simp [nv, uv]) ⟨i, by omega, by rw [List.getElem_map, hbi]; rfl⟩ (by omega) hcall
    rwa [hl] at this
  · have hg : ∀ x ∈ a, argV x = nv x ∧ x.natAbs ≤ 99999999999 := by
      intro x hx
      obtain ⟨i, hi, rfl⟩ := List.mem_iff_getElem.1 hx
      have hne : ¬ argV a[i] = uv := fun h => hbad ⟨i, hi, h⟩
      unfold argV at hne ⊢
      split
      · next h => rw [if_pos h] at hne; exact absurd rfl hne
      · next h => exact ⟨rfl, by omega⟩
    have hb : ∀ x ∈ a, x.natAbs ≤ 99999999999 := fun x hx => (hg x hx).2
    have hmap : a.map argV = a.map nv := List.map_congr_left fun x hx => (hg x hx).1
    have hs : Short (a.map nv) := by rw [← hmap]; exact short_nums a
    rw [hmap] at hv hl
    have hk : ∀ x ∈ a.map nv, x.k ≠ 5 ∧ x.k ≠ 6 := by intro x hx; obtain ⟨n, _, rfl⟩ := List.mem_map.1 hx; simp [nv]
    have hno : (∀ w, VL w A (a.map nv) → Calls Tryz.prog 139 #[.slice A (a.map nv).length cap] w fun e w' => e = .returned (.bool false) ∧ Fr w w') →
        Calls Tryz.prog 5 #[.func (.func 6) #[] #[], .string nmSWITCH, .slice A a.length cap] w fun e w' => e = .returned (.bool true) ∧ Fr w w' := by
      intro hF
      have := agrees_SWITCH_t Tabs hTr A cap (a.map nv) ovN 6 0 0 mt 0 0 mt w hv hk (by omega) ht (fun w hv => Call_no A cap _ w hv hs hF) (by simp) (fun h => absurd rfl h)
      rwa [hl] at this
    by_cases h3 : 3 ≤ a.length
    · cases hka : kAll a a.length a.length
      · refine hno fun w hv => ?_
        have := fitsSwitch_num A cap a w hv h3
        rw [hka] at this
        rwa [hl]
      · have hkey := key_bound h3 hka
        have hF : ∀ w, VL w A (a.map nv) → Calls Tryz.prog 139 #[.slice A (a.map nv).length cap] w fun e w' => e = .returned (.bool true) ∧ Fr w w' := by
          intro w hv
          have := fitsSwitch_num A cap a w hv h3
          rw [hka] at this
          rwa [hl]
        have hC : ∀ w, VL w A (a.map nv) → Calls Tryz.prog 105 #[.slice A (a.map nv).length cap] w fun e w' => e = .returned (refV (swVal (fun i => a.getD i 0) a.length)) ∧ Fr w w' := by
          intro w hv
          rw [hl]
          exact chosenBy_num A cap a w hv h3 h32
        have hsv := natAbs_swVal hb
        have hI := fun A' cap' w k x u => implSWITCH_num hM hLc hNc hFc A' cap' a w (k := k) (x := x) (u := u)
        cases hsw : swVal (fun i => a.getD i 0) a.length with
        | some v =>
          rw [hsw] at hC
          have hv53 : v.natAbs < 2 ^ 53 := by have := hsv v hsw; omega
          have hcall := fun w hv => Call_SWITCH A cap (a.map nv) 1 v 1 mt w hv fun w hv => CallOver_SWITCH_yes A cap (a.map nv) 1 v 1 mt w hv hs hF hC
          have := agrees_SWITCH_t Tabs hTr A cap (a.map nv) ovN 1 v 1 mt 1 (fw v) mt w hv hk (by omega) ht hcall (by simp) (fun _ => ⟨of_nums hb, fun w A' cap' hT hIL => by
              rw [hl]
              refine hI A' cap' w 1 (fw v) mt hIL h3 h32 hb hkey hT (fun w => ?_)
              rw [hsw]
              exact doorArg_num _ w, fun w => same_of _ _ _ _ w (num_self hv53) ⟨_, _, _, _, rfl⟩ (fun w => of_num _ w hv53)⟩)
          rwa [hl] at this
        | none =>
          rw [hsw] at hC
          have hcall := fun w hv => Call_SWITCH A cap (a.map nv) 4 0 0 naE w hv fun w hv => CallOver_SWITCH_yes A cap (a.map nv) 4 0 0 naE w hv hs hF hC
          have := agrees_SWITCH_t Tabs hTr A cap (a.map nv) ovN 4 0 0 naE 4 0 naE w hv hk (by omega) ht hcall (by simp) (fun _ => ⟨of_nums hb, fun w A' cap' hT hIL => by
              rw [hl]
              refine hI A' cap' w 4 0 naE hIL h3 h32 hb hkey hT (fun w => ?_)
              rw [hsw]
              exact doorArg_err _ _ w, fun w => same_of _ _ _ _ w zero_num ⟨_, _, _, _, rfl⟩ (fun w => of_err _ w)⟩)
          rwa [hl] at this
    · refine hno fun w hv => ?_
      exact fitsSwitch_few A cap _ w (by omega)
end Go.Proofs.YtnpnclhjfemldaaGreatDoor
