import Derived.Test.YtnpnclhjfemldaaGreatDoorA3
set_option linter.unusedSimpArgs false
set_option linter.unusedVariables false
/- agrees of SWITCH, with a condition on the world that a frame keeps; and where an argument is one of which nothing is said. -/
namespace Go.Proofs.YtnpnclhjfemldaaGreatDoor
open Go.RowKit
open Fl
open Ieee (double)
set_option maxRecDepth 100000 in
set_option maxHeartbeats 4000000 in
theorem agrees_SWITCH_t (T : World → Prop) (hT : ∀ w w', T w → Fr w w' → T w') (A : Option Addr) (cap : Nat) (l : List SVal) (ov : SVal → IVal) (wk wn wd : Int) (wt : ByteArray) (k : Int) (x : Nat) (t : ByteArray) (w : World) (hv : VL w A l) (hk : ∀ x ∈ l, x.k ≠ 5 ∧ x.k ≠ 6) (hl0 : 0 < l.length) (ht : T w)
    (hcall : ∀ w, VL w A l → Calls Tryz.prog 8 #[.string nmSWITCH, .slice A l.length cap] w fun e w' => e = .returned (sv wk wn wd wt) ∧ Fr w w') (h5 : wk ≠ 5)
    (hgo : wk ≠ 6 → (∀ x ∈ l, ∀ w, Calls Tryz.prog 19 #[x.v] w fun e w' => e = .returned (ov x).v ∧ Fr w w') ∧
      (∀ w A' cap', T w → IL w A' (l.map ov) → Calls Tryz.prog 6 #[.slice A' l.length cap'] w fun e w' => e = .returned (iv k x t) ∧ Fr w w') ∧
      (∀ w, Calls Tryz.prog 11 #[iv k x t, sv wk wn wd wt] w fun e w' => e = .returned (.bool true) ∧ Fr w w')) :
    Calls Tryz.prog 5 #[.func (.func 6) #[] #[], .string nmSWITCH, .slice A l.length cap] w fun e w' => e = .returned (.bool true) ∧ Fr w w' := by
  have Hv := Lib.hid hv; clear hv
  have HT := Lib.hid hT; clear hT
  have Ht := Lib.hid ht; clear ht
  have Hk := Lib.hid hk; clear hk
  have Hc := Lib.hid hcall; clear hcall
  have HG := Lib.hid hgo; clear hgo
  have Hl0 := Lib.hid hl0; clear hl0
  have H5 := Lib.hid h5; clear h5
  unfold nmSWITCH at Hc ⊢
  go_enter Tryz.func5, Tryz.ntmps5
  go_wp2_with fail
  refine (Hc.out _ Hv.out).mono ?_
  rintro e w1 ⟨rfl, hf1⟩
  obtain ⟨hc1, hz1⟩ := hf1.cells
  have hlt1 := hf1.size
  have HV1 := Lib.hid (Hv.out.fr hf1)
  unfold sv
  go_wp2_with fail
  refine (Table_any _ 1 1 _).mono ?_
  rintro e w2 ⟨rfl, hf2⟩
  obtain ⟨hc2, hz2⟩ := hf2.cells
  have hlt2 := hf2.size
  simp at hc2 hz2 hlt2
  have h12 : w1.heap.size < w2.heap.size := by omega
  have h12' : w1.heap.size + 1 < w2.heap.size := by omega
  have HV2 := Lib.hid ((HV1.out.fr (((Fr.refl _).alloc _).alloc _)).fr hf2)
  go_wp2_with fail
  refine (doubtful_table _ 1 A cap l _ HV2.out Hk.out Hl0.out (by rw [hc2 _ _ (by omega)]; simp [go_sem]) h12').mono ?_
  rintro e w3 ⟨rfl, hf3⟩
  obtain ⟨hc3, hz3⟩ := hf3.cells
  have hlt3 := hf3.size
  have h13 : w1.heap.size < w3.heap.size := by omega
  by_cases h6 : wk = 6
  · subst h6
    go_wp2_with fail
    refine (doubtful_yes wn wd wt _).mono ?_
    rintro e w4 ⟨rfl, hf4⟩
    go_wp2
    go_ret
    exact ⟨rfl, (by repeat (first | (with_reducible exact Fr.refl _) | ((with_reducible refine Fr.set ?_ ?_ _); focus (simp; done)) | (with_reducible refine Fr.alloc ?_ _) | (with_reducible refine Fr.drew ?_) | (with_reducible refine Fr.step ?_ (by assumption))))⟩
  · have H6 := Lib.hid h6; clear h6
    have HO := Lib.hid (HG.out H6.out)
    go_wp2_with fail
    refine (doubtful_no wk wn wd wt _ H5.out H6.out).mono ?_
    rintro e w4 ⟨rfl, hf4⟩
    obtain ⟨hc4, hz4⟩ := hf4.cells
    have hlt4 := hf4.size
    have h14 : w1.heap.size < w4.heap.size := by omega
    go_wp2
    refine wp_region_any (by kernel_rfl) ?_
    change wpAny _ _ _ _ _ _ _ (World.drew _)
    refine wpAny_take (i := 0) (v := .func (.func 6) #[] #[]) rfl (by kernel_rfl) (by kernel_rfl) (by kernel_rfl) (fun _ _ _ h => h) (Or.inl ⟨by rfl, fun W => by go_simp⟩) ?_
    refine wpAny_take (i := 1) (v := .slice A l.length cap) rfl (by kernel_rfl) (by kernel_rfl) (by kernel_rfl) (fun _ _ _ h => h) (Or.inl ⟨by rfl, fun W => by go_simp⟩) ?_
    refine wpAny_ready (rs := [2, 4]) (by kernel_rfl) (by simp) ?_
    refine AllReady.cons rfl (fun K hK => ?_) (AllReady.cons rfl (fun K hK => ?_) AllReady.nil)
    · go_simp
      go_wp2_with (go_at_call 12; refine (all_any A cap l ov _ (HV2.out.fr (by repeat (first | (with_reducible exact Fr.refl _) | ((with_reducible refine Fr.set ?_ ?_ _); focus (simp; done)) | (with_reducible refine Fr.alloc ?_ _) | (with_reducible refine Fr.drew ?_) | (with_reducible refine Fr.step ?_ (by assumption))))) HO.out.1).mono ?_; rintro e w5 ⟨A4, cap4, rfl, hIL, hf5⟩)
      have hc5 : ∀ b o, b < w4.heap.size → w5.cell? ⟨b, o, none⟩ = w4.cell? ⟨b, o, none⟩ := hf5.cells.1
      have hlt5 : w1.heap.size < w5.heap.size := by have := hf5.size; (try simp at this); omega
      have HIL := Lib.hid hIL; clear hIL
      refine wpAny_ready (rs := [3, 4]) (by kernel_rfl) (by simp) ?_
      refine AllReady.cons rfl (fun K hK => ?_) (AllReady.cons rfl (fun K hK => ?_) AllReady.nil)
      · go_simp
        go_wp2_with (go_at_call 6; refine (HO.out.2.1 _ A4 cap4 (HT.out _ _ Ht.out (by repeat (first | (with_reducible exact Fr.refl _) | ((with_reducible refine Fr.set ?_ ?_ _); focus (simp; done)) | (with_reducible refine Fr.alloc ?_ _) | (with_reducible refine Fr.drew ?_) | (with_reducible refine Fr.step ?_ (by assumption))))) (HIL.out.fr (by repeat (first | (with_reducible exact Fr.refl _) | ((with_reducible refine Fr.set ?_ ?_ _); focus (simp; done)) | (with_reducible refine Fr.alloc ?_ _) | (with_reducible refine Fr.drew ?_) | (with_reducible refine Fr.step ?_ (by assumption)))))).mono ?_; rintro e w6 ⟨rfl, hf6⟩)
        have hc6 : ∀ b o, b < w5.heap.size → w6.cell? ⟨b, o, none⟩ = w5.cell? ⟨b, o, none⟩ := hf6.cells.1
        have hlt6 : w1.heap.size < w6.heap.size := by have := hf6.size; (try simp at this); omega
        refine wpAny_ready (rs := [4]) (by kernel_rfl) (by simp) ?_; refine AllReady.cons rfl (fun K hK => ?_) AllReady.nil; go_simp; refine hK _ _ ?_; clear hK K
        refine wpAny_ready (rs := [5]) (by kernel_rfl) (by simp) ?_; refine AllReady.cons rfl (fun K hK => ?_) AllReady.nil; go_simp
        go_wp2_with (go_at_call 11; refine (HO.out.2.2 _).mono ?_; rintro e w7 ⟨rfl, hf7⟩)
        refine wpAny_ready (rs := [6]) (by kernel_rfl) (by simp) ?_; refine AllReady.cons rfl (fun K hK => ?_) AllReady.nil; go_simp; refine hK _ _ ?_; clear hK K
        refine wpAny_done (by kernel_rfl) ?_ _
        go_wp2
        go_ret
        exact ⟨rfl, (by repeat (first | (with_reducible exact Fr.refl _) | ((with_reducible refine Fr.set ?_ ?_ _); focus (simp; done)) | (with_reducible refine Fr.alloc ?_ _) | (with_reducible refine Fr.drew ?_) | (with_reducible refine Fr.step ?_ (by assumption))))⟩
      · go_simp; refine hK _ _ ?_; clear hK K
        refine wpAny_ready (rs := [3]) (by kernel_rfl) (by simp) ?_; refine AllReady.cons rfl (fun K hK => ?_) AllReady.nil; go_simp
        go_wp2_with (go_at_call 6; refine (HO.out.2.1 _ A4 cap4 (HT.out _ _ Ht.out (by repeat (first | (with_reducible exact Fr.refl _) | ((with_reducible refine Fr.set ?_ ?_ _); focus (simp; done)) | (with_reducible refine Fr.alloc ?_ _) | (with_reducible refine Fr.drew ?_) | (with_reducible refine Fr.step ?_ (by assumption))))) (HIL.out.fr (by repeat (first | (with_reducible exact Fr.refl _) | ((with_reducible refine Fr.set ?_ ?_ _); focus (simp; done)) | (with_reducible refine Fr.alloc ?_ _) | (with_reducible refine Fr.drew ?_) | (with_reducible refine Fr.step ?_ (by assumption)))))).mono ?_; rintro e w6 ⟨rfl, hf6⟩)
        have hc6 : ∀ b o, b < w5.heap.size → w6.cell? ⟨b, o, none⟩ = w5.cell? ⟨b, o, none⟩ := hf6.cells.1
        have hlt6 : w1.heap.size < w6.heap.size := by have := hf6.size; (try simp at this); omega
        refine wpAny_ready (rs := [5]) (by kernel_rfl) (by simp) ?_; refine AllReady.cons rfl (fun K hK => ?_) AllReady.nil; go_simp
        go_wp2_with (go_at_call 11; refine (HO.out.2.2 _).mono ?_; rintro e w7 ⟨rfl, hf7⟩)
        refine wpAny_ready (rs := [6]) (by kernel_rfl) (by simp) ?_; refine AllReady.cons rfl (fun K hK => ?_) AllReady.nil; go_simp; refine hK _ _ ?_; clear hK K
        refine wpAny_done (by kernel_rfl) ?_ _
        go_wp2
        go_ret
        exact ⟨rfl, (by repeat (first | (with_reducible exact Fr.refl _) | ((with_reducible refine Fr.set ?_ ?_ _); focus (simp; done)) | (with_reducible refine Fr.alloc ?_ _) | (with_reducible refine Fr.drew ?_) | (with_reducible refine Fr.step ?_ (by assumption))))⟩
    · go_simp; refine hK _ _ ?_; clear hK K
      refine wpAny_ready (rs := [2]) (by kernel_rfl) (by simp) ?_; refine AllReady.cons rfl (fun K hK => ?_) AllReady.nil; go_simp
      go_wp2_with (go_at_call 12; refine (all_any A cap l ov _ (HV2.out.fr (by repeat (first | (with_reducible exact Fr.refl _) | ((with_reducible refine Fr.set ?_ ?_ _); focus (simp; done)) | (with_reducible refine Fr.alloc ?_ _) | (with_reducible refine Fr.drew ?_) | (with_reducible refine Fr.step ?_ (by assumption))))) HO.out.1).mono ?_; rintro e w5 ⟨A4, cap4, rfl, hIL, hf5⟩)
      have hc5 : ∀ b o, b < w4.heap.size → w5.cell? ⟨b, o, none⟩ = w4.cell? ⟨b, o, none⟩ := hf5.cells.1
      have hlt5 : w1.heap.size < w5.heap.size := by have := hf5.size; (try simp at this); omega
      have HIL := Lib.hid hIL; clear hIL
      refine wpAny_ready (rs := [3]) (by kernel_rfl) (by simp) ?_; refine AllReady.cons rfl (fun K hK => ?_) AllReady.nil; go_simp
      go_wp2_with (go_at_call 6; refine (HO.out.2.1 _ A4 cap4 (HT.out _ _ Ht.out (by repeat (first | (with_reducible exact Fr.refl _) | ((with_reducible refine Fr.set ?_ ?_ _); focus (simp; done)) | (with_reducible refine Fr.alloc ?_ _) | (with_reducible refine Fr.drew ?_) | (with_reducible refine Fr.step ?_ (by assumption))))) (HIL.out.fr (by repeat (first | (with_reducible exact Fr.refl _) | ((with_reducible refine Fr.set ?_ ?_ _); focus (simp; done)) | (with_reducible refine Fr.alloc ?_ _) | (with_reducible refine Fr.drew ?_) | (with_reducible refine Fr.step ?_ (by assumption)))))).mono ?_; rintro e w6 ⟨rfl, hf6⟩)
      have hc6 : ∀ b o, b < w5.heap.size → w6.cell? ⟨b, o, none⟩ = w5.cell? ⟨b, o, none⟩ := hf6.cells.1
      have hlt6 : w1.heap.size < w6.heap.size := by have := hf6.size; (try simp at this); omega
      refine wpAny_ready (rs := [5]) (by kernel_rfl) (by simp) ?_; refine AllReady.cons rfl (fun K hK => ?_) AllReady.nil; go_simp
      go_wp2_with (go_at_call 11; refine (HO.out.2.2 _).mono ?_; rintro e w7 ⟨rfl, hf7⟩)
      refine wpAny_ready (rs := [6]) (by kernel_rfl) (by simp) ?_; refine AllReady.cons rfl (fun K hK => ?_) AllReady.nil; go_simp; refine hK _ _ ?_; clear hK K
      refine wpAny_done (by kernel_rfl) ?_ _
      go_wp2
      go_ret
      exact ⟨rfl, (by repeat (first | (with_reducible exact Fr.refl _) | ((with_reducible refine Fr.set ?_ ?_ _); focus (simp; done)) | (with_reducible refine Fr.alloc ?_ _) | (with_reducible refine Fr.drew ?_) | (with_reducible refine Fr.step ?_ (by assumption))))⟩
end Go.Proofs.YtnpnclhjfemldaaGreatDoor
