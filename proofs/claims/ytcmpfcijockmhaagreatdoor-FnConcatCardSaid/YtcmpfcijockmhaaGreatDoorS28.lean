import Derived.Test.YtcmpfcijockmhaaGreatDoorS27
set_option linter.unusedSimpArgs false
set_option linter.unusedVariables false
namespace Go.Proofs.YtcmpfcijockmhaaGreatDoor
open Go.RowKit
open Fl
open Ieee (double)
def ovT (v : SVal) : IVal := txI v.t
theorem asc_lt {s : ByteArray} (ha : asc s.data.toList = true) : ∀ i, ∀ h : i < s.size, (s[i]'h).toNat < 128 := by
  intro i h
  by_cases hb : ascB s[i] = false
  · rw [asc_bad s i h hb] at ha; exact absurd ha (by simp)
  · have hb : ascB s[i] = true := by simpa using hb
    rw [ascB_iff] at hb
    have := of_decide_eq_true hb
    omega
theorem of_txts {l : List SVal} (hl : ∀ x ∈ l, x = tx x.t) : ∀ x ∈ l, ∀ w, Calls Tryz.prog 31 #[x.v] w fun e w' => e = .returned (ovT x).v ∧ Fr w w' := by
  intro x hx w
  rw [hl x hx]
  exact of_text x.t w
theorem one_tx (s : ByteArray) : ∀ x ∈ [tx s], x = tx x.t := by intro x hx; simp at hx; subst hx; rfl
theorem one_txI (s : ByteArray) : ∀ x ∈ [txI s], x = txI x.t := by intro x hx; simp at hx; subst hx; rfl
theorem implLEN_text (A : Option Addr) (cap : Nat) (s : ByteArray) (w : World) (hv : IL w A ([tx s].map ovT)) (hs : s.size ≤ 1000) (ha : asc s.data.toList = true) :
    Calls Tryz.prog 11 #[.slice A 1 cap] w fun e w' => e = .returned (iv 1 (fw s.size) mt) ∧ Fr w w' :=
  implLEN_any A cap [txI s] w 1 (fw s.size) mt hv fun A cap w hI =>
    DoorLEN_any A cap [txI s] txA w (fa 1 (fw s.size) mt mt) 1 (fw s.size) mt hI (by simp) (inner_txts (one_txI s))
      (fun f w p bs hL => LENm_text _ w p bs s hL hs (asc_lt ha)) (fun w => doorArg_num _ w)
def uniF (s : ByteArray) : Nat := if h : 0 < s.size then fw ((s[0]'h).toNat : Int) else 0
theorem implUNICODE_some (A : Option Addr) (cap : Nat) (s : ByteArray) (w : World) (hv : IL w A ([tx s].map ovT)) (hs : s.size ≤ 1000) (h0 : 0 < s.size) :
    Calls Tryz.prog 9 #[.slice A 1 cap] w fun e w' => e = .returned (iv 1 (fw ((s[0]'h0).toNat : Int)) mt) ∧ Fr w w' :=
  implUNICODE_any A cap [txI s] w 1 (fw ((s[0]'h0).toNat : Int)) mt hv fun A cap w hI =>
    DoorUNICODE_any A cap [txI s] txA w (fa 1 (fw ((s[0]'h0).toNat : Int)) mt mt) 1 _ mt hI (by simp) (inner_txts (one_txI s))
      (fun f w p bs hL => UNICODEm _ w p bs s _ 0 0 mt ⟨_, _, _, _, rfl⟩ (fun w hL => code_some _ w p bs s hL hs h0) hL) (fun w => doorArg_num _ w)
theorem implUNICODE_none (A : Option Addr) (cap : Nat) (w : World) (hv : IL w A ([tx mt].map ovT)) :
    Calls Tryz.prog 9 #[.slice A 1 cap] w fun e w' => e = .returned (iv 4 0 valueE) ∧ Fr w w' :=
  implUNICODE_any A cap [txI mt] w 4 0 valueE hv fun A cap w hI =>
    DoorUNICODE_any A cap [txI mt] txA w (fa 5 0 valueE valueE) 4 0 valueE hI (by simp) (inner_txts (one_txI mt))
      (fun f w p bs hL => UNICODEm _ w p bs mt _ 0 0 mt ⟨_, _, _, _, rfl⟩ (fun w hL => code_none _ w p bs hL) hL) (fun w => doorArg_err _ _ w)
theorem one_kinds (s : ByteArray) : ∀ x ∈ [tx s], x.k ≠ 5 ∧ x.k ≠ 6 := by intro x hx; simp at hx; subst hx; simp [tx]
theorem num_self {n : Int} (h : n.natAbs < 2 ^ 53) : double.order (fw n) (fw n) = some .eq := not_nan (FI.own h)
theorem agreesLEN (A : Option Addr) (cap : Nat) (s : ByteArray) (w : World) (hv : VL w A [tx s]) (hs : s.size ≤ 1000) :
    Calls Tryz.prog 8 #[.func (.func 11) #[] #[], .string nmLEN, .slice A 1 cap] w fun e w' => e = .returned (.bool true) ∧ Fr w w' := by
  cases ha : asc s.data.toList
  · refine agrees_LEN A cap [tx s] ovT 6 0 0 mt 0 0 mt w hv (one_kinds s) (by simp) (fun w hv => ?_) (by simp) (fun h => absurd rfl h)
    have := Call_LEN A cap s w hv hs
    rw [ha] at this; exact this
  · have h53 : ((s.size : Nat) : Int).natAbs < 2 ^ 53 := by omega
    refine agrees_LEN A cap [tx s] ovT 1 s.size 1 mt 1 (fw s.size) mt w hv (one_kinds s) (by simp) (fun w hv => ?_) (by simp) (fun _ => ⟨of_txts (one_tx s), fun w A' cap' hI => implLEN_text A' cap' s w hI hs ha, fun w => ?_⟩)
    · have := Call_LEN A cap s w hv hs
      rw [ha] at this; exact this
    · exact same_of _ _ _ _ w (num_self h53) ⟨_, _, _, _, rfl⟩ (fun w => of_num _ w h53)
theorem agreesUNICODE (A : Option Addr) (cap : Nat) (s : ByteArray) (w : World) (hv : VL w A [tx s]) (hs : s.size ≤ 1000) :
    Calls Tryz.prog 8 #[.func (.func 9) #[] #[], .string nmUNICODE, .slice A 1 cap] w fun e w' => e = .returned (.bool true) ∧ Fr w w' := by
  cases ha : asc s.data.toList
  · refine agrees_UNICODE A cap [tx s] ovT 6 0 0 mt 0 0 mt w hv (one_kinds s) (by simp) (fun w hv => ?_) (by simp) (fun h => absurd rfl h)
    have := Call_UNICODE A cap s w hv hs
    rw [ha] at this; exact this
  · by_cases h0 : 0 < s.size
    · have hb := byte_range (s[0]'h0)
      have h53 : ((s[0]'h0).toNat : Int).natAbs < 2 ^ 53 := by omega
      refine agrees_UNICODE A cap [tx s] ovT 1 ((s[0]'h0).toNat : Int) 1 mt 1 (fw ((s[0]'h0).toNat : Int)) mt w hv (one_kinds s) (by simp) (fun w hv => ?_) (by simp) (fun _ => ⟨of_txts (one_tx s), fun w A' cap' hI => implUNICODE_some A' cap' s w hI hs h0, fun w => ?_⟩)
      · have := Call_UNICODE A cap s w hv hs
        rw [ha] at this
        simp only [uniV, h0, dif_pos, if_true] at this; exact this
      · exact same_of _ _ _ _ w (num_self h53) ⟨_, _, _, _, rfl⟩ (fun w => of_num _ w h53)
    · have hs0 : s = mt := by
        have : s.size = 0 := by omega
        cases s with | mk d => simp [ByteArray.size] at this; subst this; rfl
      subst hs0
      refine agrees_UNICODE A cap [tx mt] ovT 4 0 0 valueE 4 0 valueE w hv (one_kinds mt) (by simp) (fun w hv => ?_) (by simp) (fun _ => ⟨of_txts (one_tx mt), fun w A' cap' hI => implUNICODE_none A' cap' w hI, fun w => ?_⟩)
      · have := Call_UNICODE A cap mt w hv hs
        rw [ha] at this
        simp only [uniV, h0, dif_neg, if_true, not_false_iff] at this; exact this
      · exact same_of _ _ _ _ w zero_num ⟨_, _, _, _, rfl⟩ (fun w => of_err _ w)
theorem TL.new (w : World) (s : ByteArray) (t : TypeId) (g : Nat) (hg : g = w.heap.size) : TL (w.alloc (.cells #[.string s] t)) (some ⟨g, 0, none⟩) [s] := by
  subst hg
  refine ⟨by simp, fun _ => ⟨_, rfl, by simp, fun i x hx => ?_⟩⟩
  have hi : i = 0 := by have := (List.getElem?_eq_some_iff.1 hx).1; simp at this; exact this
  subst hi
  simp at hx; subst hx
  simp [go_sem]
set_option maxRecDepth 100000 in
set_option maxHeartbeats 2000000 in
theorem FnLen_calls (s : ByteArray) (w : World) (hs : s.size ≤ maxLen) :
    Calls Tryz.prog 4 #[.string s] w fun e w' => e = .returned (.bool true) ∧ Fr w w' := by
  have hm : s.size ≤ 9223372036854775807 := by unfold maxLen at hs; omega
  by_cases hb : (2147483647 : Int) < s.size
  · go_enter Tryz.func4, Tryz.ntmps4
    go_wp2
    go_ret
    exact ⟨rfl, (by repeat (first | (with_reducible exact Fr.refl _) | ((with_reducible refine Fr.set ?_ ?_ _); focus (simp; done)) | (with_reducible refine Fr.alloc ?_ _) | (with_reducible refine Fr.drew ?_) | (with_reducible refine Fr.step ?_ (by assumption))))⟩
  · by_cases hk : s.size ≤ 1000
    · have HK := Lib.hid hk
      go_enter Tryz.func4, Tryz.ntmps4
      go_wp2_with fail
      refine (shortTexts_yes _ 1 [s] _ (TL.new _ s _ _ rfl) (fun x hx => by simp at hx; subst hx; exact HK.out)).mono ?_
      rintro e w1 ⟨rfl, rfl⟩
      go_wp2_with fail
      refine (Str_any s _).mono ?_
      rintro e w1 ⟨rfl, hf1⟩
      unfold sv
      go_wp2_with fail
      refine (agreesLEN _ 1 s _ (VL.new _ (tx s) _ _ rfl) HK.out).mono ?_
      rintro e w2 ⟨rfl, hf2⟩
      go_wp2
      go_ret
      exact ⟨rfl, (by repeat (first | (with_reducible exact Fr.refl _) | ((with_reducible refine Fr.set ?_ ?_ _); focus (simp; done)) | (with_reducible refine Fr.alloc ?_ _) | (with_reducible refine Fr.drew ?_) | (with_reducible refine Fr.step ?_ (by assumption))))⟩
    · have HK := Lib.hid hk
      go_enter Tryz.func4, Tryz.ntmps4
      go_wp2_with fail
      refine (shortTexts_no _ 1 [s] _ (TL.new _ s _ _ rfl) ⟨0, by simp, by simpa using HK.out⟩).mono ?_
      rintro e w1 ⟨rfl, rfl⟩
      go_wp2
      go_ret
      exact ⟨rfl, (by repeat (first | (with_reducible exact Fr.refl _) | ((with_reducible refine Fr.set ?_ ?_ _); focus (simp; done)) | (with_reducible refine Fr.alloc ?_ _) | (with_reducible refine Fr.drew ?_) | (with_reducible refine Fr.step ?_ (by assumption))))⟩
set_option maxRecDepth 100000 in
set_option maxHeartbeats 2000000 in
theorem FnUnicode_calls (s : ByteArray) (w : World) (hs : s.size ≤ maxLen) :
    Calls Tryz.prog 3 #[.string s] w fun e w' => e = .returned (.bool true) ∧ Fr w w' := by
  have hm : s.size ≤ 9223372036854775807 := by unfold maxLen at hs; omega
  by_cases hb : (2147483647 : Int) < s.size
  · go_enter Tryz.func3, Tryz.ntmps3
    go_wp2
    go_ret
    exact ⟨rfl, (by repeat (first | (with_reducible exact Fr.refl _) | ((with_reducible refine Fr.set ?_ ?_ _); focus (simp; done)) | (with_reducible refine Fr.alloc ?_ _) | (with_reducible refine Fr.drew ?_) | (with_reducible refine Fr.step ?_ (by assumption))))⟩
  · by_cases hk : s.size ≤ 1000
    · have HK := Lib.hid hk
      go_enter Tryz.func3, Tryz.ntmps3
      go_wp2_with fail
      refine (shortTexts_yes _ 1 [s] _ (TL.new _ s _ _ rfl) (fun x hx => by simp at hx; subst hx; exact HK.out)).mono ?_
      rintro e w1 ⟨rfl, rfl⟩
      go_wp2_with fail
      refine (Str_any s _).mono ?_
      rintro e w1 ⟨rfl, hf1⟩
      unfold sv
      go_wp2_with fail
      refine (agreesUNICODE _ 1 s _ (VL.new _ (tx s) _ _ rfl) HK.out).mono ?_
      rintro e w2 ⟨rfl, hf2⟩
      go_wp2
      go_ret
      exact ⟨rfl, (by repeat (first | (with_reducible exact Fr.refl _) | ((with_reducible refine Fr.set ?_ ?_ _); focus (simp; done)) | (with_reducible refine Fr.alloc ?_ _) | (with_reducible refine Fr.drew ?_) | (with_reducible refine Fr.step ?_ (by assumption))))⟩
    · have HK := Lib.hid hk
      go_enter Tryz.func3, Tryz.ntmps3
      go_wp2_with fail
      refine (shortTexts_no _ 1 [s] _ (TL.new _ s _ _ rfl) ⟨0, by simp, by simpa using HK.out⟩).mono ?_
      rintro e w1 ⟨rfl, rfl⟩
      go_wp2
      go_ret
      exact ⟨rfl, (by repeat (first | (with_reducible exact Fr.refl _) | ((with_reducible refine Fr.set ?_ ?_ _); focus (simp; done)) | (with_reducible refine Fr.alloc ?_ _) | (with_reducible refine Fr.drew ?_) | (with_reducible refine Fr.step ?_ (by assumption))))⟩
end Go.Proofs.YtcmpfcijockmhaaGreatDoor
