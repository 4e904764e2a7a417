import Derived.Test.YtcmpfcijockmhaaGreatDoorS33
import Derived.Laws.AppendOwnNone
set_option linter.unusedSimpArgs false
set_option linter.unusedVariables false
namespace Go.Proofs.YtcmpfcijockmhaaGreatDoor
open Go.RowKit
open Fl
open Ieee (double)
set_option maxRecDepth 100000 in
set_option maxHeartbeats 2000000 in
theorem shortTexts_ta (A : Option Addr) (cap : Nat) (l : List ByteArray) (w : World) (hv : TA w A l) (hl : l.length ≤ 1000000) :
    Calls Tryz.prog 7 #[.slice A l.length cap] w fun e w' => e = .returned (.bool (l.all fun x => decide (x.size ≤ 1000))) ∧ w = w' := by
  have HV := Lib.hid hv; clear hv
  cases hs : l.all fun x => decide (x.size ≤ 1000)
  · obtain ⟨i0, hi0, hbig⟩ : ∃ i, ∃ h : i < l.length, 1000 < l[i].size := by
      have h1 : ¬ ∀ x ∈ l, decide (x.size ≤ 1000) = true := fun h => by
        rw [List.all_eq_true.2 h] at hs; cases hs
      apply Classical.byContradiction
      intro h2
      apply h1
      intro x hx
      obtain ⟨i, hi, rfl⟩ := List.mem_iff_getElem.1 hx
      apply decide_eq_true
      apply Classical.byContradiction
      intro h3
      exact h2 ⟨i, hi, by omega⟩
    have HB := Lib.hid hbig; clear hbig hs
    go_enter Tryz.func7, Tryz.ntmps7
    go_wp2
    go_loop [3] (fun i => ∃ k : Nat, k ≤ i0 ∧ i = .int .i64 k) (fun i => l.length - (intOf i).toNat)
    case atStart => exact ⟨0, Nat.zero_le _, rfl⟩
    case round =>
      obtain ⟨k, hk, rfl⟩ := hrel
      have hlt : k < l.length := by omega
      obtain ⟨g, o, rfl, hg, c0⟩ := HV.out.at hlt
      by_cases hH : 1000 < l[k].size
      · generalize hx : l[k] = x at *
        go_wp2
        go_ret
        exact ⟨rfl, rfl⟩
      · have hne : k ≠ i0 := by
          intro e; subst e; exact hH HB.out
        generalize hx : l[k] = x at *
        go_wp2
        go_round
        case rel => exact ⟨k + 1, by omega, by simp⟩
        case measure => simp [intOf]; omega
  · have HF := Lib.hid (List.all_eq_true.1 hs); clear hs
    go_enter Tryz.func7, Tryz.ntmps7
    go_wp2
    go_loop [3] (fun i => ∃ k : Nat, k ≤ l.length ∧ i = .int .i64 k) (fun i => l.length - (intOf i).toNat)
    case atStart => exact ⟨0, Nat.zero_le _, rfl⟩
    case round =>
      obtain ⟨k, hk, rfl⟩ := hrel
      by_cases hlt : k < l.length
      · obtain ⟨g, o, rfl, hg, c0⟩ := HV.out.at hlt
        have hH : l[k].size ≤ 1000 := of_decide_eq_true (HF.out l[k] (List.getElem_mem hlt))
        generalize hx : l[k] = x at *
        go_wp2
        go_round
        case rel => exact ⟨k + 1, by omega, by simp⟩
        case measure => simp [intOf]; omega
      · go_wp2
        go_ret
        exact ⟨rfl, rfl⟩
theorem map_txI (l : List ByteArray) : (l.map tx).map ovT = l.map txI := by
  rw [List.map_map]; rfl
theorem txts_txI {l : List ByteArray} : ∀ x ∈ l.map txI, x = txI x.t := by
  intro x hx; obtain ⟨s, _, rfl⟩ := List.mem_map.1 hx; rfl
theorem txts_tx {l : List ByteArray} : ∀ x ∈ l.map tx, x = tx x.t := by
  intro x hx; obtain ⟨s, _, rfl⟩ := List.mem_map.1 hx; rfl
theorem txt_back (l : List ByteArray) : (l.map tx).map SVal.t = l := by
  rw [List.map_map]; exact List.map_id' l
theorem implCONCAT_texts (hW : WritesBuf) (hS : TellsBuf) (A : Option Addr) (cap : Nat) (l : List ByteArray) (w : World) (hv : IL w A ((l.map tx).map ovT)) (hn : 0 < l.length) (hl : l.length ≤ 999999) (ht : total l ≤ 20000) :
    Calls Tryz.prog 15 #[.slice A (l.map tx).length cap] w fun e w' => e = .returned (iv 2 0 (cat l)) ∧ Fr w w' := by
  rw [map_txI] at hv
  have h := implCONCAT_any A cap (l.map txI) w 2 0 (cat l) hv fun A cap w hI =>
    DoorCONCAT_any A cap (l.map txI) txA w (fa 2 0 (cat l) mt) 2 0 (cat l) hI (by simpa using hl) (inner_txts txts_txI)
      (fun f w p bs hL => CONCATm hW hS _ w p bs l (by rw [List.map_map] at hL; exact hL) hn ht) (fun w => doorArg_text _ _ w)
  simpa using h
theorem agreesCONCAT (hW : WritesBuf) (hS : TellsBuf) (A : Option Addr) (cap : Nat) (l : List ByteArray) (w : World) (hv : VL w A (l.map tx)) (hn : 0 < l.length) (hl : l.length ≤ 20) (hs : ∀ x ∈ l, x.size ≤ 1000) (ht : total l ≤ 20000) :
    Calls Tryz.prog 8 #[.func (.func 15) #[] #[], .string nmCONCAT, .slice A (l.map tx).length cap] w fun e w' => e = .returned (.bool true) ∧ Fr w w' := by
  have hn' : 0 < (l.map tx).length := by simpa using hn
  have hk : ∀ x ∈ l.map tx, x = tx x.t ∧ x.t.size ≤ maxLen := fun x hx => by
    obtain ⟨s, hs1, rfl⟩ := List.mem_map.1 hx
    exact ⟨rfl, short_len (hs s hs1)⟩
  have ht' : total ((l.map tx).map SVal.t) ≤ 20000 := by rw [txt_back]; exact ht
  have hkk : ∀ x ∈ l.map tx, x.k ≠ 5 ∧ x.k ≠ 6 := fun x hx => by rw [(hk x hx).1]; simp [tx]
  cases ha : (l.map tx).all ascV
  · exact agrees_CONCAT A cap (l.map tx) ovT 6 0 0 mt 0 0 mt w hv hkk hn' (fun w hv => Call_CONCAT_no A cap (l.map tx) w hv hn' hk ht' ha) (by simp) (fun h => absurd rfl h)
  · refine agrees_CONCAT A cap (l.map tx) ovT 2 0 0 (cat l) 2 0 (cat l) w hv hkk hn' (fun w hv => ?_) (by simp) (fun _ => ⟨of_txts txts_tx, fun w A' cap' hI => implCONCAT_texts hW hS A' cap' l w hI hn (by omega) ht, fun w => ?_⟩)
    · have := Call_CONCAT_yes A cap (l.map tx) w hv hn' hk ht' ha
      unfold catV at this
      rw [txt_back] at this; exact this
    · exact same_of _ _ _ _ w zero_num ⟨_, _, _, _, rfl⟩ (fun w => of_text _ w)
end Go.Proofs.YtcmpfcijockmhaaGreatDoor
