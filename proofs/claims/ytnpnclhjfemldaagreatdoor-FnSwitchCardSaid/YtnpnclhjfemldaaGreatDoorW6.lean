import Derived.Test.YtnpnclhjfemldaaGreatDoorW4
import Derived.Test.YtnpnclhjfemldaaGreatDoorW5
import Derived.Test.YtnpnclhjfemldaaGreatDoorA3
import Derived.Test.YtnpnclhjfemldaaGreatDoorUSWITCH
import Derived.Test.YtnpnclhjfemldaaGreatDoorN14
import Derived.Test.YtnpnclhjfemldaaGreatDoorN15
set_option linter.unusedSimpArgs false
set_option linter.unusedVariables false
/- agrees of SWITCH over whole numbers. -/
namespace Go.Proofs.YtnpnclhjfemldaaGreatDoor
open Go.RowKit
open Fl
open Ieee (double)
set_option maxRecDepth 100000 in
set_option maxHeartbeats 1000000 in
theorem doubtful_bad (r : Nat) (c' : Nat) (A : Option Addr) (cap : Nat) (l : List SVal) (w : World) (hv : VL w A l) (hk : ∀ x ∈ l, x.k ≠ 5) (hb : ∃ i, ∃ h : i < l.length, l[i].k = 6) (hl0 : 0 < l.length)
    (hr : w.cell? ⟨r, 0, none⟩ = some (.slice A l.length cap)) (hrl : r < w.heap.size) :
    Calls Tryz.prog 9 #[.agg #[.int .i64 5, .int .i64 0, .int .i64 0, .string mt, .slice (some ⟨r, 0, none⟩) 1 c']] w fun e w' => e = .returned (.bool true) ∧ Fr w w' := by
  have Hv := Lib.hid hv; clear hv
  have HF := Lib.hid hk; clear hk
  have Hl0 := Lib.hid hl0; clear hl0
  obtain ⟨i0, hi0, hbad⟩ := hb
  have HB := Lib.hid hbad; clear hbad
  go_enter Tryz.func9, Tryz.ntmps9
  go_wp2_with fail
  refine (Flat_table _ r 1 c' A cap l _ (Hv.out.fr (by repeat (first | (with_reducible exact Fr.refl _) | ((with_reducible refine Fr.set ?_ ?_ _); focus (simp; done)) | (with_reducible refine Fr.alloc ?_ _) | (with_reducible refine Fr.drew ?_) | (with_reducible refine Fr.step ?_ (by assumption))))) (fun x hx => HF.out x hx) Hl0.out (by simp [go_sem]) (by simp [go_sem]) (by simp [go_sem, hr, hrl]) (by simp) (by simp; omega)).mono ?_
  rintro e w1 ⟨A', cap', rfl, hV, hf1⟩
  have HV := Lib.hid hV; clear hV
  have hl := HV.out.1
  go_wp2
  go_loop [4] (fun i => ∃ k : Nat, k ≤ i0 ∧ i = .int .i64 k) (fun i => l.length - (intOf i).toNat)
  case atStart => exact ⟨0, Nat.zero_le _, rfl⟩
  case round =>
    obtain ⟨k, hk, rfl⟩ := hrel
    have hlt : k < l.length := by omega
    obtain ⟨g, rfl, hg, c0, c1, c2, c3, c4⟩ := HV.out.at hlt
    by_cases hH : l[k].k = 6
    · generalize hx : l[k] = x at *
      rw [hH] at c0
      go_wp2
      go_ret
      exact ⟨rfl, (by repeat (first | (with_reducible exact Fr.refl _) | ((with_reducible refine Fr.set ?_ ?_ _); focus (simp; done)) | (with_reducible refine Fr.alloc ?_ _) | (with_reducible refine Fr.drew ?_) | (with_reducible refine Fr.step ?_ (by assumption))))⟩
    · have hne : k ≠ i0 := by intro e; subst e; exact hH HB.out
      generalize hx : l[k] = x at *
      go_wp2
      go_round
      case rel => exact ⟨k + 1, by omega, by simp⟩
      case measure => simp [intOf]; omega
set_option maxRecDepth 100000 in
set_option maxHeartbeats 4000000 in
theorem agreesSWITCH_unsure (A : Option Addr) (cap : Nat) (l : List SVal) (wk wn wd : Int) (wt : ByteArray) (w : World) (hv : VL w A l) (hk : ∀ x ∈ l, x.k ≠ 5) (hb : ∃ i, ∃ h : i < l.length, l[i].k = 6) (hl0 : 0 < l.length)
    (hcall : ∀ w, VL w A l → Calls Tryz.prog 8 #[.string nmSWITCH, .slice A l.length cap] w fun e w' => e = .returned (sv wk wn wd wt) ∧ Fr w w') :
    Calls Tryz.prog 5 #[.func (.func 6) #[] #[], .string nmSWITCH, .slice A l.length cap] w fun e w' => e = .returned (.bool true) ∧ Fr w w' := by
  have Hv := Lib.hid hv; clear hv
  have Hk := Lib.hid hk; clear hk
  have Hb := Lib.hid hb; clear hb
  have Hc := Lib.hid hcall; clear hcall
  have Hl0 := Lib.hid hl0; clear hl0
  unfold nmSWITCH at Hc ⊢
  go_enter Tryz.func5, Tryz.ntmps5
  go_wp2_with fail
  refine (Hc.out _ Hv.out).mono ?_
  rintro e w1 ⟨rfl, hf1⟩
  obtain ⟨hc1, hz1⟩ := hf1.cells
  have hlt1 := hf1.size
  have HV1 := Lib.hid (Hv.out.fr hf1)
  unfold sv
  go_wp2_with fail
  refine (Table_any _ 1 1 _).mono ?_
  rintro e w2 ⟨rfl, hf2⟩
  obtain ⟨hc2, hz2⟩ := hf2.cells
  have hlt2 := hf2.size
  simp at hc2 hz2 hlt2
  have h12 : w1.heap.size < w2.heap.size := by omega
  have h12' : w1.heap.size + 1 < w2.heap.size := by omega
  have HV2 := Lib.hid ((HV1.out.fr (((Fr.refl _).alloc _).alloc _)).fr hf2)
  go_wp2_with fail
  refine (doubtful_bad _ 1 A cap l _ HV2.out Hk.out Hb.out Hl0.out (by rw [hc2 _ _ (by omega)]; simp [go_sem]) h12').mono ?_
  rintro e w3 ⟨rfl, hf3⟩
  go_wp2
  go_ret
  exact ⟨rfl, (by repeat (first | (with_reducible exact Fr.refl _) | ((with_reducible refine Fr.set ?_ ?_ _); focus (simp; done)) | (with_reducible refine Fr.alloc ?_ _) | (with_reducible refine Fr.drew ?_) | (with_reducible refine Fr.step ?_ (by assumption))))⟩
def ovN (x : SVal) : IVal := ⟨1, fw x.n, mt⟩
def fvN (x : IVal) : Array Value := cellsFa 1 x.x mt mt
def Tabs (w : World) : Prop := PT w ∧ DT w
theorem Tabs.fr {w w' : World} (h : Tabs w) (hf : Fr w w') : Tabs w' := ⟨h.1.fr hf, h.2.fr hf⟩
end Go.Proofs.YtnpnclhjfemldaaGreatDoor
