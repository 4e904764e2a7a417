import Derived.Test.YtnpnclhjfemldaaGreatDoorS24
set_option linter.unusedSimpArgs false
set_option linter.unusedVariables false
namespace Go.Proofs.YtnpnclhjfemldaaGreatDoor
open Go.RowKit
open Fl
open Ieee (double)
@[go_sem] theorem assert_fa (W : World) (v : Value) : (Instr.typeAssert (.iface 58 v) 20 58 false).run Tryz.prog W = .ok v W := by kernel_rfl
set_option maxRecDepth 100000 in
set_option maxHeartbeats 1000000 in
theorem Len_any (w : World) (p : Nat) (bs : List Nat) (vs : List Value) (hL : LS w p bs vs) :
    Calls Tryz.prog 33 #[.pointer (some ⟨p, 0, none⟩)] w fun e w' => e = .returned (.int .i64 bs.length) ∧ w = w' := by
  have r4 := hL.r4
  generalize bs.length = n at *
  clear hL
  go_enter Tryz.func33, Tryz.ntmps33
  go_wp2
  go_ret
  exact ⟨rfl, rfl⟩
set_option maxRecDepth 100000 in
set_option maxHeartbeats 1000000 in
theorem Front_any (w : World) (p b : Nat) (bs : List Nat) (vs : List Value) (hL : LS w p (b :: bs) vs) :
    Calls Tryz.prog 35 #[.pointer (some ⟨p, 0, none⟩)] w fun e w' => e = .returned (.pointer (some ⟨b, 0, none⟩)) ∧ w = w' := by
  have r4 := hL.r4
  have r0 := hL.r0
  simp only [List.headD_cons] at r0
  have hl := hL.hl
  obtain ⟨n, hn⟩ : ∃ n, n = (b :: bs).length := ⟨_, rfl⟩
  rw [← hn] at r4 hl
  have hn0 : 0 < n := by rw [hn]; simp
  clear hL hn
  go_enter Tryz.func35, Tryz.ntmps35
  go_wp2
  go_ret
  exact ⟨rfl, rfl⟩
set_option maxRecDepth 100000 in
set_option maxHeartbeats 1000000 in
theorem doorArg_num (x : Nat) (w : World) :
    Calls Tryz.prog 20 #[fa 1 x mt mt] w fun e w' => e = .returned (iv 1 x mt) ∧ Fr w w' := by
  unfold fa
  go_enter Tryz.func20, Tryz.ntmps20
  go_wp2
  exact bodyPost_ret (v := .agg #[.int .i64 1, .float .f64 x, .string mt, .slice none 0 0]) (by simp [results, Tryz.results20, go_sem, sv, mt, *]) rfl ⟨rfl, (by repeat (first | (with_reducible exact Fr.refl _) | ((with_reducible refine Fr.set ?_ ?_ _); focus (simp; done)) | (with_reducible refine Fr.alloc ?_ _) | (with_reducible refine Fr.drew ?_) | (with_reducible refine Fr.step ?_ (by assumption))))⟩
set_option maxRecDepth 100000 in
set_option maxHeartbeats 1000000 in
theorem doorArg_err (s t : ByteArray) (w : World) :
    Calls Tryz.prog 20 #[fa 5 0 s t] w fun e w' => e = .returned (iv 4 0 s) ∧ Fr w w' := by
  unfold fa
  go_enter Tryz.func20, Tryz.ntmps20
  go_wp2
  exact bodyPost_ret (v := .agg #[.int .i64 4, .float .f64 0, .string s, .slice none 0 0]) (by simp [results, Tryz.results20, go_sem, sv, mt, *]) rfl ⟨rfl, (by repeat (first | (with_reducible exact Fr.refl _) | ((with_reducible refine Fr.set ?_ ?_ _); focus (simp; done)) | (with_reducible refine Fr.alloc ?_ _) | (with_reducible refine Fr.drew ?_) | (with_reducible refine Fr.step ?_ (by assumption))))⟩
set_option maxRecDepth 100000 in
set_option maxHeartbeats 1000000 in
theorem out_any (k : Int) (x : Nat) (s : ByteArray) (w : World) :
    Calls Tryz.prog 13 #[iv k x s] w fun e w' => e = .returned (iv k x s) ∧ Fr w w' := by
  unfold iv
  go_enter Tryz.func13, Tryz.ntmps13
  go_wp2
  go_loop [19] (fun i => i = .int .i64 0) (fun i => 0)
  case atStart => rfl
  case round =>
    subst hrel
    go_wp2
    exact bodyPost_ret (v := .agg #[.int .i64 k, .float .f64 x, .string s, .slice none 0 0]) (by simp [results, Tryz.results13, go_sem, sv, mt, *]) rfl ⟨rfl, (by repeat (first | (with_reducible exact Fr.refl _) | ((with_reducible refine Fr.set ?_ ?_ _); focus (simp; done)) | (with_reducible refine Fr.alloc ?_ _) | (with_reducible refine Fr.drew ?_) | (with_reducible refine Fr.step ?_ (by assumption))))⟩
end Go.Proofs.YtnpnclhjfemldaaGreatDoor
