import Derived.Test.YtollahofgcabpaaGreatDoorUPROPER
import Derived.Test.YtollahofgcabpaaGreatDoorQ2
import Derived.Test.YtollahofgcabpaaGreatDoorS28
set_option linter.unusedSimpArgs false
set_option linter.unusedVariables false
/- said of PROPER; FnProperTwice's walk, up to the buffer's two contracts. -/
namespace Go.Proofs.YtollahofgcabpaaGreatDoor
open Go.RowKit
open Fl
open Ieee (double)
theorem implPROPER_text (hB : WritesByte) (hS : TellsBuf) (A : Option Addr) (cap : Nat) (s : ByteArray) (w : World) (hv : IL w A ([tx s].map ovT)) (hs : s.size ≤ 1000) (ha : asc s.data.toList = true) (ht : LT w) :
    Calls Tryz.prog 7 #[.slice A 1 cap] w fun e w' => e = .returned (iv 2 0 (propT s)) ∧ Fr w w' :=
  implPROPER_t LT (fun _ _ h hf => h.fr hf) A cap [txI s] w 2 0 (propT s) hv ht fun A cap w ht hI =>
    DoorPROPER_t LT (fun _ _ h hf => h.fr hf) A cap [txI s] txA w (fa 2 0 (propT s) mt) 2 0 (propT s) hI (by simp) ht (inner_txts (one_txI s))
      (fun f w p bs ht hL => PROPERm_text hB hS _ w p bs s hL hs ha ht) (fun w => doorArg_text _ _ w)
set_option maxRecDepth 100000 in
set_option maxHeartbeats 2000000 in
theorem said_PROPER (hB : WritesByte) (hS : TellsBuf) (A : Option Addr) (cap : Nat) (s : ByteArray) (w : World) (hv : VL w A [tx s]) (hs : s.size ≤ 1000) (ha : asc s.data.toList = true) (ht : LT w) :
    Calls Tryz.prog 6 #[.func (.func 7) #[] #[], .slice A 1 cap] w fun e w' => e = .returned (sv 2 0 0 (propT s)) ∧ Fr w w' := by
  have Hv := Lib.hid hv; clear hv
  have Ht := Lib.hid ht; clear ht
  have Hi := Lib.hid (fun w A cap hv ht => implPROPER_text hB hS A cap s w hv hs ha ht)
  clear hs ha hB hS
  go_enter Tryz.func6, Tryz.ntmps6
  go_wp2_with fail
  refine (all_any A cap [tx s] ovT _ (Hv.out.fr (by repeat (first | (with_reducible exact Fr.refl _) | ((with_reducible refine Fr.set ?_ ?_ _); focus (simp; done)) | (with_reducible refine Fr.alloc ?_ _) | (with_reducible refine Fr.drew ?_) | (with_reducible refine Fr.step ?_ (by assumption))))) (of_txts (one_tx s))).mono ?_
  rintro e w1 ⟨A1, cap1, rfl, hIL, hf1⟩
  have HIL := Lib.hid hIL; clear hIL
  have hlt1 := hf1.size
  simp at hlt1
  obtain ⟨hc1, hz1⟩ := hf1.cells
  simp at hc1 hz1
  have h01 : w.heap.size < w1.heap.size := by omega
  go_wp2_with fail
  refine (Hi.out _ A1 cap1 (HIL.out.fr (by repeat (first | (with_reducible exact Fr.refl _) | ((with_reducible refine Fr.set ?_ ?_ _); focus (simp; done)) | (with_reducible refine Fr.alloc ?_ _) | (with_reducible refine Fr.drew ?_) | (with_reducible refine Fr.step ?_ (by assumption))))) (Ht.out.fr (by repeat (first | (with_reducible exact Fr.refl _) | ((with_reducible refine Fr.set ?_ ?_ _); focus (simp; done)) | (with_reducible refine Fr.alloc ?_ _) | (with_reducible refine Fr.drew ?_) | (with_reducible refine Fr.step ?_ (by assumption)))))).mono ?_
  rintro e w2 ⟨rfl, hf2⟩
  have hlt2 := hf2.size
  obtain ⟨hc2, hz2⟩ := hf2.cells
  have h02 : w.heap.size < w2.heap.size := by omega
  unfold iv
  go_wp2_with fail
  refine (Str_any _ _).mono ?_
  rintro e w3 ⟨rfl, hf3⟩
  have hlt3 := hf3.size
  (try simp at hlt3)
  obtain ⟨hc3, hz3⟩ := hf3.cells
  (try simp at hc3); (try simp at hz3)
  have h02' : w.heap.size < w2.heap.size + 1 := by omega
  have h03 : w.heap.size < w3.heap.size := by omega
  unfold sv
  go_wp2
  exact bodyPost_ret (v := sv 2 0 0 (propT s)) (by simp [results, Tryz.results6, go_sem, sv, mt, *]) rfl ⟨rfl, (by repeat (first | (with_reducible exact Fr.refl _) | ((with_reducible refine Fr.set ?_ ?_ _); focus (simp; done)) | (with_reducible refine Fr.alloc ?_ _) | (with_reducible refine Fr.drew ?_) | (with_reducible refine Fr.step ?_ (by assumption))))⟩
theorem said_again (hB : WritesByte) (hS : TellsBuf) (A : Option Addr) (cap : Nat) (s : ByteArray) (w : World) (hv : VL w A [tx (propT s)]) (hs : (propT s).size ≤ 1000) (ha : asc (propT s).data.toList = true) (ht : LT w) :
    Calls Tryz.prog 6 #[.func (.func 7) #[] #[], .slice A 1 cap] w fun e w' => e = .returned (sv 2 0 0 (propT s)) ∧ Fr w w' := by
  have h := said_PROPER hB hS A cap (propT s) w hv hs ha ht
  rwa [propT_twice] at h
theorem same_self (t : ByteArray) : sameB 2 0 0 t 2 0 0 t = true := by simp [sameB]
set_option maxRecDepth 100000 in
set_option maxHeartbeats 2000000 in
theorem FnProperTwice_calls (hB : WritesByte) (hS : TellsBuf) (s : ByteArray) (w : World) (hs : s.size ≤ maxLen) (ht : LT w) :
    Calls Tryz.prog 3 #[.string s] w fun e w' => e = .returned (.bool true) ∧ Fr w w' := by
  have hm : s.size ≤ 9223372036854775807 := by unfold maxLen at hs; omega
  have HM := Lib.hid hs; clear hs
  have HB := Lib.hid hB; clear hB
  have HS := Lib.hid hS; clear hS
  have Ht := Lib.hid ht; clear ht
  by_cases hb : (2147483647 : Int) < s.size
  · go_enter Tryz.func3, Tryz.ntmps3
    go_wp2
    go_ret
    exact ⟨rfl, (by repeat (first | (with_reducible exact Fr.refl _) | ((with_reducible refine Fr.set ?_ ?_ _); focus (simp; done)) | (with_reducible refine Fr.alloc ?_ _) | (with_reducible refine Fr.drew ?_) | (with_reducible refine Fr.step ?_ (by assumption))))⟩
  · by_cases hk : s.size ≤ 1000
    · have HK := Lib.hid hk
      have HK2 := Lib.hid (show (propT s).size ≤ 1000 by rw [propT_size]; exact hk)
      cases ha : asc s.data.toList
      · have HA := Lib.hid ha; clear ha
        go_enter Tryz.func3, Tryz.ntmps3
        go_wp2_with fail
        refine (shortTexts_yes _ 1 [s] _ (TL.new _ s _ _ rfl) (fun x hx => by simp at hx; subst hx; exact HK.out)).mono ?_
        rintro e w1 ⟨rfl, rfl⟩
        go_wp2_with fail
        refine (Ascii_any s _ HM.out).mono ?_
        rintro e w1 ⟨rfl, rfl⟩
        rw [HA.out]
        go_wp2
        go_ret
        exact ⟨rfl, (by repeat (first | (with_reducible exact Fr.refl _) | ((with_reducible refine Fr.set ?_ ?_ _); focus (simp; done)) | (with_reducible refine Fr.alloc ?_ _) | (with_reducible refine Fr.drew ?_) | (with_reducible refine Fr.step ?_ (by assumption))))⟩
      · have HA := Lib.hid ha
        have HA2 := Lib.hid (propT_asc s ha)
        clear ha
        go_enter Tryz.func3, Tryz.ntmps3
        go_wp2_with fail
        refine (shortTexts_yes _ 1 [s] _ (TL.new _ s _ _ rfl) (fun x hx => by simp at hx; subst hx; exact HK.out)).mono ?_
        rintro e w1 ⟨rfl, rfl⟩
        go_wp2_with fail
        refine (Ascii_any s _ HM.out).mono ?_
        rintro e w1 ⟨rfl, rfl⟩
        rw [HA.out]
        go_wp2_with fail
        refine (Str_any s _).mono ?_
        rintro e w1 ⟨rfl, hf1⟩
        unfold sv
        go_wp2_with fail
        refine (said_PROPER HB.out HS.out _ 1 s _ (VL.new _ (tx s) _ _ rfl) HK.out HA.out (Ht.out.fr (by repeat (first | (with_reducible exact Fr.refl _) | ((with_reducible refine Fr.set ?_ ?_ _); focus (simp; done)) | (with_reducible refine Fr.alloc ?_ _) | (with_reducible refine Fr.drew ?_) | (with_reducible refine Fr.step ?_ (by assumption)))))).mono ?_
        rintro e w2 ⟨rfl, hf2⟩
        -- REGION
        unfold sv
        go_wp2_with fail
        refine wp_region_any (by kernel_rfl) ?_
        change wpAny _ _ _ _ _ _ _ (World.drew _)
        refine wpAny_ready (rs := [0]) (by kernel_rfl) (by simp) ?_; refine AllReady.cons rfl (fun K hK => ?_) AllReady.nil; go_simp; refine hK _ _ ?_; clear hK K
        refine wpAny_ready (rs := [1]) (by kernel_rfl) (by simp) ?_; refine AllReady.cons rfl (fun K hK => ?_) AllReady.nil; go_simp; refine hK _ _ ?_; clear hK K
        refine wpAny_ready (rs := [2]) (by kernel_rfl) (by simp) ?_; refine AllReady.cons rfl (fun K hK => ?_) AllReady.nil; go_simp; refine hK _ _ ?_; clear hK K
        refine wpAny_ready (rs := [3]) (by kernel_rfl) (by simp) ?_; refine AllReady.cons rfl (fun K hK => ?_) AllReady.nil; go_simp; refine hK _ _ ?_; clear hK K
        refine wpAny_ready (rs := [4, 7]) (by kernel_rfl) (by simp) ?_
        refine AllReady.cons rfl (fun K hK => ?_) (AllReady.cons rfl (fun K hK => ?_) AllReady.nil)
        · go_simp; refine hK _ _ ?_; clear hK K
          refine wpAny_ready (rs := [5, 7]) (by kernel_rfl) (by simp) ?_
          refine AllReady.cons rfl (fun K hK => ?_) (AllReady.cons rfl (fun K hK => ?_) AllReady.nil)
          · go_simp; refine hK _ _ ?_; clear hK K
            refine wpAny_ready (rs := [6, 7]) (by kernel_rfl) (by simp) ?_
            refine AllReady.cons rfl (fun K hK => ?_) (AllReady.cons rfl (fun K hK => ?_) AllReady.nil)
            · go_simp
              go_wp2_with (go_at_call 6; refine (said_again HB.out HS.out _ 1 s _ ((VL.new _ (tx (propT s)) _ _ (by simp)).fr ((Fr.refl _).drew)) HK2.out HA2.out (Ht.out.fr (by repeat (first | (with_reducible exact Fr.refl _) | ((with_reducible refine Fr.set ?_ ?_ _); focus (simp; done)) | (with_reducible refine Fr.alloc ?_ _) | (with_reducible refine Fr.drew ?_) | (with_reducible refine Fr.step ?_ (by assumption)))))).mono ?_; rintro e w3 ⟨rfl, hf3⟩)
              have hlt3 := hf3.size
              (try simp at hlt3)
              obtain ⟨hc3, hz3⟩ := hf3.cells
              (try simp at hc3)
              have h3a : w2.heap.size < w3.heap.size := by omega
              refine wpAny_ready (rs := [7]) (by kernel_rfl) (by simp) ?_; refine AllReady.cons rfl (fun K hK => ?_) AllReady.nil; go_simp; refine hK _ _ ?_; clear hK K
              refine wpAny_ready (rs := [8]) (by kernel_rfl) (by simp) ?_; refine AllReady.cons rfl (fun K hK => ?_) AllReady.nil; go_simp
              go_wp2_with (go_at_call 9; refine (Same_any _ _ _ _ _ _ _ _ _).mono ?_; rintro e w4 ⟨rfl, hf4⟩)
              rw [same_self]
              refine wpAny_ready (rs := [9]) (by kernel_rfl) (by simp) ?_; refine AllReady.cons rfl (fun K hK => ?_) AllReady.nil; go_simp; refine hK _ _ ?_; clear hK K
              refine wpAny_ready (rs := [10]) (by kernel_rfl) (by simp) ?_; refine AllReady.cons rfl (fun K hK => ?_) AllReady.nil; go_simp; refine hK _ _ ?_; clear hK K
              refine wpAny_done (by kernel_rfl) ?_ _
              go_wp2
              go_ret
              exact ⟨rfl, (by repeat (first | (with_reducible exact Fr.refl _) | ((with_reducible refine Fr.set ?_ ?_ _); focus (simp; done)) | (with_reducible refine Fr.alloc ?_ _) | (with_reducible refine Fr.drew ?_) | (with_reducible refine Fr.step ?_ (by assumption))))⟩
            · go_simp; refine hK _ _ ?_; clear hK K
              refine wpAny_ready (rs := [6]) (by kernel_rfl) (by simp) ?_; refine AllReady.cons rfl (fun K hK => ?_) AllReady.nil; go_simp
              go_wp2_with (go_at_call 6; refine (said_again HB.out HS.out _ 1 s _ ((VL.new _ (tx (propT s)) _ _ (by simp)).fr ((Fr.refl _).drew)) HK2.out HA2.out (Ht.out.fr (by repeat (first | (with_reducible exact Fr.refl _) | ((with_reducible refine Fr.set ?_ ?_ _); focus (simp; done)) | (with_reducible refine Fr.alloc ?_ _) | (with_reducible refine Fr.drew ?_) | (with_reducible refine Fr.step ?_ (by assumption)))))).mono ?_; rintro e w3 ⟨rfl, hf3⟩)
              have hlt3 := hf3.size
              (try simp at hlt3)
              obtain ⟨hc3, hz3⟩ := hf3.cells
              (try simp at hc3)
              have h3a : w2.heap.size < w3.heap.size := by omega
              refine wpAny_ready (rs := [8]) (by kernel_rfl) (by simp) ?_; refine AllReady.cons rfl (fun K hK => ?_) AllReady.nil; go_simp
              go_wp2_with (go_at_call 9; refine (Same_any _ _ _ _ _ _ _ _ _).mono ?_; rintro e w4 ⟨rfl, hf4⟩)
              rw [same_self]
              refine wpAny_ready (rs := [9]) (by kernel_rfl) (by simp) ?_; refine AllReady.cons rfl (fun K hK => ?_) AllReady.nil; go_simp; refine hK _ _ ?_; clear hK K
              refine wpAny_ready (rs := [10]) (by kernel_rfl) (by simp) ?_; refine AllReady.cons rfl (fun K hK => ?_) AllReady.nil; go_simp; refine hK _ _ ?_; clear hK K
              refine wpAny_done (by kernel_rfl) ?_ _
              go_wp2
              go_ret
              exact ⟨rfl, (by repeat (first | (with_reducible exact Fr.refl _) | ((with_reducible refine Fr.set ?_ ?_ _); focus (simp; done)) | (with_reducible refine Fr.alloc ?_ _) | (with_reducible refine Fr.drew ?_) | (with_reducible refine Fr.step ?_ (by assumption))))⟩
          · go_simp; refine hK _ _ ?_; clear hK K
            refine wpAny_ready (rs := [5]) (by kernel_rfl) (by simp) ?_; refine AllReady.cons rfl (fun K hK => ?_) AllReady.nil; go_simp; refine hK _ _ ?_; clear hK K
            refine wpAny_ready (rs := [6]) (by kernel_rfl) (by simp) ?_; refine AllReady.cons rfl (fun K hK => ?_) AllReady.nil; go_simp
            go_wp2_with (go_at_call 6; refine (said_again HB.out HS.out _ 1 s _ ((VL.new _ (tx (propT s)) _ _ (by simp)).fr ((Fr.refl _).drew)) HK2.out HA2.out (Ht.out.fr (by repeat (first | (with_reducible exact Fr.refl _) | ((with_reducible refine Fr.set ?_ ?_ _); focus (simp; done)) | (with_reducible refine Fr.alloc ?_ _) | (with_reducible refine Fr.drew ?_) | (with_reducible refine Fr.step ?_ (by assumption)))))).mono ?_; rintro e w3 ⟨rfl, hf3⟩)
            have hlt3 := hf3.size
            (try simp at hlt3)
            obtain ⟨hc3, hz3⟩ := hf3.cells
            (try simp at hc3)
            have h3a : w2.heap.size < w3.heap.size := by omega
            refine wpAny_ready (rs := [8]) (by kernel_rfl) (by simp) ?_; refine AllReady.cons rfl (fun K hK => ?_) AllReady.nil; go_simp
            go_wp2_with (go_at_call 9; refine (Same_any _ _ _ _ _ _ _ _ _).mono ?_; rintro e w4 ⟨rfl, hf4⟩)
            rw [same_self]
            refine wpAny_ready (rs := [9]) (by kernel_rfl) (by simp) ?_; refine AllReady.cons rfl (fun K hK => ?_) AllReady.nil; go_simp; refine hK _ _ ?_; clear hK K
            refine wpAny_ready (rs := [10]) (by kernel_rfl) (by simp) ?_; refine AllReady.cons rfl (fun K hK => ?_) AllReady.nil; go_simp; refine hK _ _ ?_; clear hK K
            refine wpAny_done (by kernel_rfl) ?_ _
            go_wp2
            go_ret
            exact ⟨rfl, (by repeat (first | (with_reducible exact Fr.refl _) | ((with_reducible refine Fr.set ?_ ?_ _); focus (simp; done)) | (with_reducible refine Fr.alloc ?_ _) | (with_reducible refine Fr.drew ?_) | (with_reducible refine Fr.step ?_ (by assumption))))⟩
        · go_simp; refine hK _ _ ?_; clear hK K
          refine wpAny_ready (rs := [4]) (by kernel_rfl) (by simp) ?_; refine AllReady.cons rfl (fun K hK => ?_) AllReady.nil; go_simp; refine hK _ _ ?_; clear hK K
          refine wpAny_ready (rs := [5]) (by kernel_rfl) (by simp) ?_; refine AllReady.cons rfl (fun K hK => ?_) AllReady.nil; go_simp; refine hK _ _ ?_; clear hK K
          refine wpAny_ready (rs := [6]) (by kernel_rfl) (by simp) ?_; refine AllReady.cons rfl (fun K hK => ?_) AllReady.nil; go_simp
          go_wp2_with (go_at_call 6; refine (said_again HB.out HS.out _ 1 s _ ((VL.new _ (tx (propT s)) _ _ (by simp)).fr ((Fr.refl _).drew)) HK2.out HA2.out (Ht.out.fr (by repeat (first | (with_reducible exact Fr.refl _) | ((with_reducible refine Fr.set ?_ ?_ _); focus (simp; done)) | (with_reducible refine Fr.alloc ?_ _) | (with_reducible refine Fr.drew ?_) | (with_reducible refine Fr.step ?_ (by assumption)))))).mono ?_; rintro e w3 ⟨rfl, hf3⟩)
          have hlt3 := hf3.size
          (try simp at hlt3)
          obtain ⟨hc3, hz3⟩ := hf3.cells
          (try simp at hc3)
          have h3a : w2.heap.size < w3.heap.size := by omega
          refine wpAny_ready (rs := [8]) (by kernel_rfl) (by simp) ?_; refine AllReady.cons rfl (fun K hK => ?_) AllReady.nil; go_simp
          go_wp2_with (go_at_call 9; refine (Same_any _ _ _ _ _ _ _ _ _).mono ?_; rintro e w4 ⟨rfl, hf4⟩)
          rw [same_self]
          refine wpAny_ready (rs := [9]) (by kernel_rfl) (by simp) ?_; refine AllReady.cons rfl (fun K hK => ?_) AllReady.nil; go_simp; refine hK _ _ ?_; clear hK K
          refine wpAny_ready (rs := [10]) (by kernel_rfl) (by simp) ?_; refine AllReady.cons rfl (fun K hK => ?_) AllReady.nil; go_simp; refine hK _ _ ?_; clear hK K
          refine wpAny_done (by kernel_rfl) ?_ _
          go_wp2
          go_ret
          exact ⟨rfl, (by repeat (first | (with_reducible exact Fr.refl _) | ((with_reducible refine Fr.set ?_ ?_ _); focus (simp; done)) | (with_reducible refine Fr.alloc ?_ _) | (with_reducible refine Fr.drew ?_) | (with_reducible refine Fr.step ?_ (by assumption))))⟩
    · have HK := Lib.hid hk
      go_enter Tryz.func3, Tryz.ntmps3
      go_wp2_with fail
      refine (shortTexts_no _ 1 [s] _ (TL.new _ s _ _ rfl) ⟨0, by simp, by simpa using HK.out⟩).mono ?_
      rintro e w1 ⟨rfl, rfl⟩
      go_wp2
      go_ret
      exact ⟨rfl, (by repeat (first | (with_reducible exact Fr.refl _) | ((with_reducible refine Fr.set ?_ ?_ _); focus (simp; done)) | (with_reducible refine Fr.alloc ?_ _) | (with_reducible refine Fr.drew ?_) | (with_reducible refine Fr.step ?_ (by assumption))))⟩
end Go.Proofs.YtollahofgcabpaaGreatDoor
