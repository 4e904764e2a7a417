import Derived.Test.YtnpnclhjfemldaaGreatDoorA3
set_option linter.unusedSimpArgs false
set_option linter.unusedVariables false
/- The doors of SWITCH, with a condition on the world that a frame keeps. -/
namespace Go.Proofs.YtnpnclhjfemldaaGreatDoor
open Go.RowKit
open Fl
open Ieee (double)
set_option maxRecDepth 100000 in
set_option maxHeartbeats 2000000 in
theorem DoorSWITCH_t (T : World → Prop) (hT : ∀ w w', T w → Fr w w' → T w') (A : Option Addr) (cap : Nat) (l : List IVal) (fv : IVal → Array Value) (w : World) (R : Value) (k : Int) (x : Nat) (u : ByteArray) (hv : IL w A l) (hl9 : l.length ≤ 999999) (ht : T w)
    (hia : ∀ x ∈ l, ∀ w, Calls Tryz.prog 42 #[x.v] w fun e w' => e = .returned (.agg (fv x)) ∧ Fr w w')
    (hm : ∀ f w p bs, T w → LS w p bs (l.map fun x => .agg (fv x)) → Calls Tryz.prog 22 #[.pointer (some ⟨f, 0, none⟩), .pointer (some ⟨p, 0, none⟩)] w fun e w' => e = .returned R ∧ Fr w w')
    (hd : ∀ w, Calls Tryz.prog 20 #[R] w fun e w' => e = .returned (iv k x u) ∧ Fr w w') :
    Calls Tryz.prog 14 #[.slice A l.length cap] w fun e w' => e = .returned (iv k x u) ∧ Fr w w' := by
  have Hv := Lib.hid hv; clear hv
  have Hi := Lib.hid hia; clear hia
  have Hm := Lib.hid hm; clear hm
  have Hd := Lib.hid hd; clear hd
  have HT := Lib.hid hT; clear hT
  have Ht := Lib.hid ht; clear ht
  go_enter Tryz.func14, Tryz.ntmps14
  go_wp2_with fail
  refine (doorFuncs_any _).mono ?_
  rintro e w1 ⟨f, rfl, hf1⟩
  have hlt1 := hf1.size
  simp at hlt1
  obtain ⟨hc1, hz1⟩ := hf1.cells
  simp at hc1 hz1
  have h01 : w.heap.size < w1.heap.size := by omega
  go_wp2_with fail
  refine (innerList_any A cap l fv _ (Hv.out.fr (by repeat (first | (with_reducible exact Fr.refl _) | ((with_reducible refine Fr.set ?_ ?_ _); focus (simp; done)) | (with_reducible refine Fr.alloc ?_ _) | (with_reducible refine Fr.drew ?_) | (with_reducible refine Fr.step ?_ (by assumption))))) hl9 Hi.out).mono ?_
  rintro e w2 ⟨p, bs, rfl, hL, hf2⟩
  have HL := Lib.hid hL; clear hL
  have hlt2 := hf2.size
  obtain ⟨hc2, hz2⟩ := hf2.cells
  have h02 : w.heap.size < w2.heap.size := by omega
  go_wp2_with fail
  refine (Hm.out f _ p bs (HT.out _ _ Ht.out (by repeat (first | (with_reducible exact Fr.refl _) | ((with_reducible refine Fr.set ?_ ?_ _); focus (simp; done)) | (with_reducible refine Fr.alloc ?_ _) | (with_reducible refine Fr.drew ?_) | (with_reducible refine Fr.step ?_ (by assumption))))) HL.out).mono ?_
  rintro e w3 ⟨rfl, hf3⟩
  have hlt3 := hf3.size
  obtain ⟨hc3, hz3⟩ := hf3.cells
  have h03 : w.heap.size < w3.heap.size := by omega
  go_wp2_with fail
  refine (Hd.out _).mono ?_
  rintro e w4 ⟨rfl, hf4⟩
  have hlt4 := hf4.size
  obtain ⟨hc4, hz4⟩ := hf4.cells
  have h04 : w.heap.size < w4.heap.size := by omega
  unfold iv
  go_wp2
  exact bodyPost_ret (v := .agg #[.int .i64 k, .float .f64 x, .string u, .slice none 0 0]) (by simp [results, Tryz.results14, go_sem, sv, mt, *]) rfl ⟨rfl, (by repeat (first | (with_reducible exact Fr.refl _) | ((with_reducible refine Fr.set ?_ ?_ _); focus (simp; done)) | (with_reducible refine Fr.alloc ?_ _) | (with_reducible refine Fr.drew ?_) | (with_reducible refine Fr.step ?_ (by assumption))))⟩
set_option maxRecDepth 100000 in
set_option maxHeartbeats 2000000 in
theorem implSWITCH_t (T : World → Prop) (hT : ∀ w w', T w → Fr w w' → T w') (A : Option Addr) (cap : Nat) (l : List IVal) (w : World) (k : Int) (x : Nat) (u : ByteArray) (hv : IL w A l) (ht : T w)
    (hd : ∀ A cap w, T w → IL w A l → Calls Tryz.prog 14 #[.slice A l.length cap] w fun e w' => e = .returned (iv k x u) ∧ Fr w w') :
    Calls Tryz.prog 6 #[.slice A l.length cap] w fun e w' => e = .returned (iv k x u) ∧ Fr w w' := by
  have Hv := Lib.hid hv; clear hv
  have Hd := Lib.hid hd; clear hd
  have HT := Lib.hid hT; clear hT
  have Ht := Lib.hid ht; clear ht
  go_enter Tryz.func6, Tryz.ntmps6
  go_wp2_with fail
  refine (in_any A cap l _ (Hv.out.fr (by repeat (first | (with_reducible exact Fr.refl _) | ((with_reducible refine Fr.set ?_ ?_ _); focus (simp; done)) | (with_reducible refine Fr.alloc ?_ _) | (with_reducible refine Fr.drew ?_) | (with_reducible refine Fr.step ?_ (by assumption)))))).mono ?_
  rintro e w1 ⟨A1, cap1, rfl, hI, hf1⟩
  have HI := Lib.hid hI; clear hI
  have hlt1 := hf1.size
  simp at hlt1
  obtain ⟨hc1, hz1⟩ := hf1.cells
  simp at hc1 hz1
  have h01 : w.heap.size < w1.heap.size := by omega
  go_wp2_with fail
  refine (Hd.out A1 cap1 _ (HT.out _ _ Ht.out (by repeat (first | (with_reducible exact Fr.refl _) | ((with_reducible refine Fr.set ?_ ?_ _); focus (simp; done)) | (with_reducible refine Fr.alloc ?_ _) | (with_reducible refine Fr.drew ?_) | (with_reducible refine Fr.step ?_ (by assumption))))) HI.out).mono ?_
  rintro e w2 ⟨rfl, hf2⟩
  have hlt2 := hf2.size
  obtain ⟨hc2, hz2⟩ := hf2.cells
  have h02 : w.heap.size < w2.heap.size := by omega
  go_wp2_with fail
  refine (out_any k x u _).mono ?_
  rintro e w3 ⟨rfl, hf3⟩
  have hlt3 := hf3.size
  obtain ⟨hc3, hz3⟩ := hf3.cells
  have h03 : w.heap.size < w3.heap.size := by omega
  unfold iv
  go_wp2
  exact bodyPost_ret (v := .agg #[.int .i64 k, .float .f64 x, .string u, .slice none 0 0]) (by simp [results, Tryz.results6, go_sem, sv, mt, *]) rfl ⟨rfl, (by repeat (first | (with_reducible exact Fr.refl _) | ((with_reducible refine Fr.set ?_ ?_ _); focus (simp; done)) | (with_reducible refine Fr.alloc ?_ _) | (with_reducible refine Fr.drew ?_) | (with_reducible refine Fr.step ?_ (by assumption))))⟩
end Go.Proofs.YtnpnclhjfemldaaGreatDoor
