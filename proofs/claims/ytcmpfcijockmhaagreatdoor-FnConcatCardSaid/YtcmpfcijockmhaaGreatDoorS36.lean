import Derived.Test.YtcmpfcijockmhaaGreatDoorS35
set_option linter.unusedSimpArgs false
set_option linter.unusedVariables false
namespace Go.Proofs.YtcmpfcijockmhaaGreatDoor
open Go.RowKit
open Fl
open Ieee (double)
theorem total_bound {l : List ByteArray} (h : ∀ x ∈ l, x.size ≤ 1000) : ∀ k, k ≤ l.length → total (l.take k) ≤ k * 1000 := by
  intro k
  induction k with
  | zero => intro _; exact Nat.le_refl _
  | succ k ih =>
    intro hk
    have h1 := ih (by omega)
    have h2 := h l[k] (List.getElem_mem (by omega))
    rw [total_step (by omega)]
    omega
theorem agreesCONCAT_all (hW : WritesBuf) (hS : TellsBuf) (A : Option Addr) (cap : Nat) (l : List ByteArray) (w : World) (hv : VL w A (l.map tx)) (hl : l.length ≤ 20) (hs : ∀ x ∈ l, x.size ≤ 1000) :
    Calls Tryz.prog 8 #[.func (.func 15) #[] #[], .string nmCONCAT, .slice A l.length cap] w fun e w' => e = .returned (.bool true) ∧ Fr w w' := by
  by_cases hn : 0 < l.length
  · have ht : total l ≤ 20000 := by
      have := total_bound hs l.length (Nat.le_refl _)
      rw [List.take_length] at this
      omega
    have := agreesCONCAT hW hS A cap l w hv hn hl hs ht
    simpa using this
  · have h0 : l.length = 0 := by omega
    rw [h0]
    exact agrees_CONCAT_empty A cap w
set_option maxRecDepth 100000 in
set_option maxHeartbeats 2000000 in
theorem FnConcat_calls (hW : WritesBuf) (hS : TellsBuf) (A : Option Addr) (cap : Nat) (l : List ByteArray) (w : World) (hv : TA w A l) (hl : l.length ≤ 9223372036854775807) :
    Calls Tryz.prog 6 #[.slice A l.length cap] w fun e w' => e = .returned (.bool true) ∧ Fr w w' := by
  have HV := Lib.hid hv; clear hv
  have Hl := Lib.hid hl
  have HA := Lib.hid (fun A cap w hv hl hs => agreesCONCAT_all hW hS A cap l w hv hl hs)
  clear hW hS
  unfold nmCONCAT at HA
  go_enter Tryz.func6, Tryz.ntmps6
  go_wp2_with fail
  refine (zzFits6_some A cap l _ HV.out Hl.out).mono ?_
  rintro e w1 ⟨⟨b, rfl⟩, rfl⟩
  cases b
  · go_wp2
    go_ret
    exact ⟨rfl, (by repeat (first | (with_reducible exact Fr.refl _) | ((with_reducible refine Fr.set ?_ ?_ _); focus (simp; done)) | (with_reducible refine Fr.alloc ?_ _) | (with_reducible refine Fr.drew ?_) | (with_reducible refine Fr.step ?_ (by assumption))))⟩
  · by_cases h20 : (20 : Int) < l.length
    · go_wp2
      go_ret
      exact ⟨rfl, (by repeat (first | (with_reducible exact Fr.refl _) | ((with_reducible refine Fr.set ?_ ?_ _); focus (simp; done)) | (with_reducible refine Fr.alloc ?_ _) | (with_reducible refine Fr.drew ?_) | (with_reducible refine Fr.step ?_ (by assumption))))⟩
    · have H20 := Lib.hid (show l.length ≤ 20 by omega)
      have HT := Lib.hid (shortTexts_ta A cap l w HV.out (by omega))
      cases hs : l.all fun x => decide (x.size ≤ 1000)
      · rw [hs] at HT
        clear hs
        go_wp2_with fail
        refine HT.out.mono ?_
        rintro e w2 ⟨rfl, rfl⟩
        go_wp2
        go_ret
        exact ⟨rfl, (by repeat (first | (with_reducible exact Fr.refl _) | ((with_reducible refine Fr.set ?_ ?_ _); focus (simp; done)) | (with_reducible refine Fr.alloc ?_ _) | (with_reducible refine Fr.drew ?_) | (with_reducible refine Fr.step ?_ (by assumption))))⟩
      · rw [hs] at HT
        have HS := Lib.hid (List.all_eq_true.1 hs); clear hs
        go_wp2_with fail
        refine HT.out.mono ?_
        rintro e w2 ⟨rfl, rfl⟩
        go_wp2_with fail
        refine (argTexts_any A cap l _ HV.out (by omega)).mono ?_
        rintro e w3 ⟨A3, cap3, rfl, hV, hf3⟩
        have HV3 := Lib.hid hV; clear hV
        go_wp2_with fail
        refine (HA.out A3 cap3 _ HV3.out H20.out (fun x hx => of_decide_eq_true (HS.out x hx))).mono ?_
        rintro e w4 ⟨rfl, hf4⟩
        go_wp2
        go_ret
        exact ⟨rfl, (by repeat (first | (with_reducible exact Fr.refl _) | ((with_reducible refine Fr.set ?_ ?_ _); focus (simp; done)) | (with_reducible refine Fr.alloc ?_ _) | (with_reducible refine Fr.drew ?_) | (with_reducible refine Fr.step ?_ (by assumption))))⟩
end Go.Proofs.YtcmpfcijockmhaaGreatDoor
