import Derived.Test.YtcmpfcijockmhaaGreatDoorS24
set_option linter.unusedSimpArgs false
set_option linter.unusedVariables false
namespace Go.Proofs.YtcmpfcijockmhaaGreatDoor
open Go.RowKit
open Fl
open Ieee (double)
@[go_sem] theorem assert_fa (W : World) (v : Value) : (Instr.typeAssert (.iface 63 v) 20 63 false).run Tryz.prog W = .ok v W := by kernel_rfl
set_option maxRecDepth 100000 in
set_option maxHeartbeats 1000000 in
theorem Len_any (w : World) (p : Nat) (bs : List Nat) (vs : List Value) (hL : LS w p bs vs) :
    Calls Tryz.prog 53 #[.pointer (some ⟨p, 0, none⟩)] w fun e w' => e = .returned (.int .i64 bs.length) ∧ w = w' := by
  have r4 := hL.r4
  generalize bs.length = n at *
  clear hL
  go_enter Tryz.func53, Tryz.ntmps53
  go_wp2
  go_ret
  exact ⟨rfl, rfl⟩
set_option maxRecDepth 100000 in
set_option maxHeartbeats 1000000 in
theorem Front_any (w : World) (p b : Nat) (bs : List Nat) (vs : List Value) (hL : LS w p (b :: bs) vs) :
    Calls Tryz.prog 57 #[.pointer (some ⟨p, 0, none⟩)] w fun e w' => e = .returned (.pointer (some ⟨b, 0, none⟩)) ∧ w = w' := by
  have r4 := hL.r4
  have r0 := hL.r0
  simp only [List.headD_cons] at r0
  have hl := hL.hl
  obtain ⟨n, hn⟩ : ∃ n, n = (b :: bs).length := ⟨_, rfl⟩
  rw [← hn] at r4 hl
  have hn0 : 0 < n := by rw [hn]; simp
  clear hL hn
  go_enter Tryz.func57, Tryz.ntmps57
  go_wp2
  go_ret
  exact ⟨rfl, rfl⟩
set_option maxRecDepth 100000 in
set_option maxHeartbeats 1000000 in
theorem Value_text (x : Nat) (s t : ByteArray) (w : World) :
    Calls Tryz.prog 58 #[fa 2 x s t] w fun e w' => e = .returned (.string s) ∧ Fr w w' := by
  unfold fa
  go_enter Tryz.func58, Tryz.ntmps58
  go_wp2
  go_ret
  exact ⟨rfl, (by repeat (first | (with_reducible exact Fr.refl _) | ((with_reducible refine Fr.set ?_ ?_ _); focus (simp; done)) | (with_reducible refine Fr.alloc ?_ _) | (with_reducible refine Fr.drew ?_) | (with_reducible refine Fr.step ?_ (by assumption))))⟩
set_option maxRecDepth 100000 in
set_option maxHeartbeats 2000000 in
theorem LENm_text (f : Value) (w : World) (p : Nat) (bs : List Nat) (s : ByteArray) (hL : LS w p bs [fa 2 0 s mt]) (hs : s.size ≤ 1000) (ha : ∀ i, ∀ h : i < s.size, (s[i]'h).toNat < 128) :
    Calls Tryz.prog 36 #[f, .pointer (some ⟨p, 0, none⟩)] w fun e w' => e = .returned (fa 1 (fw s.size) mt mt) ∧ Fr w w' := by
  have Ha := Lib.hid ha; clear ha
  have hlen := hL.len
  match bs, hL, hlen with
  | [b], hL, _ =>
  have HL := Lib.hid hL; clear hL
  have h53 := Lib.hid (show ((s.size : Nat) : Int).natAbs < 2 ^ 53 by omega)
  have hfl : floatOfInt .f64 (s.size : Int) = fw s.size := floatOfInt_fw _ h53.out
  go_enter Tryz.func36, Tryz.ntmps36
  go_wp2_with fail
  refine (Len_any _ p [b] _ (HL.out.fr (by repeat (first | (with_reducible exact Fr.refl _) | ((with_reducible refine Fr.set ?_ ?_ _); focus (simp; done)) | (with_reducible refine Fr.alloc ?_ _) | (with_reducible refine Fr.drew ?_) | (with_reducible refine Fr.step ?_ (by assumption)))))).mono ?_
  rintro e w1 ⟨rfl, rfl⟩
  go_wp2_with fail
  refine (Front_any _ p b [] _ (HL.out.fr (by repeat (first | (with_reducible exact Fr.refl _) | ((with_reducible refine Fr.set ?_ ?_ _); focus (simp; done)) | (with_reducible refine Fr.alloc ?_ _) | (with_reducible refine Fr.drew ?_) | (with_reducible refine Fr.step ?_ (by assumption)))))).mono ?_
  rintro e w1 ⟨rfl, rfl⟩
  have c3 := (HL.out.el 0 b _ rfl rfl).2.2
  have hbs := (HL.out.hb b (by simp)).2
  go_wp2_with fail
  refine (Value_text 0 s mt _).mono ?_
  rintro e w1 ⟨rfl, hf1⟩
  have hlt1 := hf1.size
  simp at hlt1
  obtain ⟨hc1, hz1⟩ := hf1.cells
  simp at hc1 hz1
  have h01 : w.heap.size < w1.heap.size := by omega
  go_wp2_with fail
  refine (count_asc s _ (by omega) Ha.out).mono ?_
  rintro e w2 ⟨rfl, hf2⟩
  have hlt2 := hf2.size
  obtain ⟨hc2, hz2⟩ := hf2.cells
  have h02 : w.heap.size < w2.heap.size := by omega
  go_wp2_with fail
  refine (newNumber_int s.size _ h53.out).mono ?_
  rintro e w3 ⟨rfl, hf3⟩
  have hlt3 := hf3.size
  obtain ⟨hc3, hz3⟩ := hf3.cells
  have h03 : w.heap.size < w3.heap.size := by omega
  clear hfl
  unfold fa
  go_wp2
  exact bodyPost_ret (v := .agg #[.string mt, .float .f64 (fw s.size), .string mt, .slice none 0 0, .slice none 0 0, .bool false, .string mt, .int .u8 1, .pointer none, .pointer none]) (by simp [results, Tryz.results36, go_sem, sv, mt, *]) rfl ⟨rfl, (by repeat (first | (with_reducible exact Fr.refl _) | ((with_reducible refine Fr.set ?_ ?_ _); focus (simp; done)) | (with_reducible refine Fr.alloc ?_ _) | (with_reducible refine Fr.drew ?_) | (with_reducible refine Fr.step ?_ (by assumption))))⟩
set_option maxRecDepth 100000 in
set_option maxHeartbeats 2000000 in
theorem code_some (f : Value) (w : World) (p : Nat) (bs : List Nat) (s : ByteArray) (hL : LS w p bs [fa 2 0 s mt]) (hs : s.size ≤ 1000) (h0 : 0 < s.size) :
    Calls Tryz.prog 49 #[f, .string nmUNICODE, .pointer (some ⟨p, 0, none⟩)] w fun e w' => e = .returned (fa 1 (fw ((s[0]'h0).toNat : Int)) mt mt) ∧ Fr w w' := by
  have hlen := hL.len
  match bs, hL, hlen with
  | [b], hL, _ =>
  have HL := Lib.hid hL; clear hL
  have hb := byte_range (s[0]'h0)
  have h53 := Lib.hid (show ((s[0]'h0).toNat : Int).natAbs < 2 ^ 53 by omega)
  have hfl : floatOfInt .f64 ((s[0]'h0).toNat : Int) = fw ((s[0]'h0).toNat : Int) := floatOfInt_fw _ h53.out
  unfold nmUNICODE
  go_enter Tryz.func49, Tryz.ntmps49
  go_wp2_with fail
  refine (Len_any _ p [b] _ (HL.out.fr (by repeat (first | (with_reducible exact Fr.refl _) | ((with_reducible refine Fr.set ?_ ?_ _); focus (simp; done)) | (with_reducible refine Fr.alloc ?_ _) | (with_reducible refine Fr.drew ?_) | (with_reducible refine Fr.step ?_ (by assumption)))))).mono ?_
  rintro e w1 ⟨rfl, rfl⟩
  go_wp2_with fail
  refine (Front_any _ p b [] _ (HL.out.fr (by repeat (first | (with_reducible exact Fr.refl _) | ((with_reducible refine Fr.set ?_ ?_ _); focus (simp; done)) | (with_reducible refine Fr.alloc ?_ _) | (with_reducible refine Fr.drew ?_) | (with_reducible refine Fr.step ?_ (by assumption)))))).mono ?_
  rintro e w1 ⟨rfl, rfl⟩
  have c3 := (HL.out.el 0 b _ rfl rfl).2.2
  have hbs := (HL.out.hb b (by simp)).2
  go_wp2_with fail
  refine (Value_text 0 s mt _).mono ?_
  rintro e w1 ⟨rfl, hf1⟩
  have hlt1 := hf1.size
  simp at hlt1
  obtain ⟨hc1, hz1⟩ := hf1.cells
  simp at hc1 hz1
  have h01 : w.heap.size < w1.heap.size := by omega
  go_wp2_with fail
  refine (newNumber_int _ _ h53.out).mono ?_
  rintro e w3 ⟨rfl, hf3⟩
  have hlt3 := hf3.size
  obtain ⟨hc3, hz3⟩ := hf3.cells
  have h03 : w.heap.size < w3.heap.size := by omega
  clear hfl
  unfold fa
  go_wp2
  exact bodyPost_ret (v := .agg #[.string mt, .float .f64 (fw ((s[0]'h0).toNat : Int)), .string mt, .slice none 0 0, .slice none 0 0, .bool false, .string mt, .int .u8 1, .pointer none, .pointer none]) (by simp [results, Tryz.results49, go_sem, sv, mt, *]) rfl ⟨rfl, (by repeat (first | (with_reducible exact Fr.refl _) | ((with_reducible refine Fr.set ?_ ?_ _); focus (simp; done)) | (with_reducible refine Fr.alloc ?_ _) | (with_reducible refine Fr.drew ?_) | (with_reducible refine Fr.step ?_ (by assumption))))⟩
set_option maxRecDepth 100000 in
set_option maxHeartbeats 2000000 in
theorem code_none (f : Value) (w : World) (p : Nat) (bs : List Nat) (hL : LS w p bs [fa 2 0 mt mt]) :
    Calls Tryz.prog 49 #[f, .string nmUNICODE, .pointer (some ⟨p, 0, none⟩)] w fun e w' => e = .returned (fa 5 0 valueE valueE) ∧ Fr w w' := by
  have hlen := hL.len
  match bs, hL, hlen with
  | [b], hL, _ =>
  have HL := Lib.hid hL; clear hL
  unfold nmUNICODE
  go_enter Tryz.func49, Tryz.ntmps49
  go_wp2_with fail
  refine (Len_any _ p [b] _ (HL.out.fr (by repeat (first | (with_reducible exact Fr.refl _) | ((with_reducible refine Fr.set ?_ ?_ _); focus (simp; done)) | (with_reducible refine Fr.alloc ?_ _) | (with_reducible refine Fr.drew ?_) | (with_reducible refine Fr.step ?_ (by assumption)))))).mono ?_
  rintro e w1 ⟨rfl, rfl⟩
  go_wp2_with fail
  refine (Front_any _ p b [] _ (HL.out.fr (by repeat (first | (with_reducible exact Fr.refl _) | ((with_reducible refine Fr.set ?_ ?_ _); focus (simp; done)) | (with_reducible refine Fr.alloc ?_ _) | (with_reducible refine Fr.drew ?_) | (with_reducible refine Fr.step ?_ (by assumption)))))).mono ?_
  rintro e w1 ⟨rfl, rfl⟩
  have c3 := (HL.out.el 0 b _ rfl rfl).2.2
  have hbs := (HL.out.hb b (by simp)).2
  go_wp2_with fail
  refine (Value_text 0 mt mt _).mono ?_
  rintro e w1 ⟨rfl, hf1⟩
  have hlt1 := hf1.size
  simp at hlt1
  obtain ⟨hc1, hz1⟩ := hf1.cells
  simp at hc1 hz1
  have h01 : w.heap.size < w1.heap.size := by omega
  unfold mt
  go_wp2_with fail
  refine (newError_any _ _ _).mono ?_
  rintro e w3 ⟨rfl, hf3⟩
  have hlt3 := hf3.size
  obtain ⟨hc3, hz3⟩ := hf3.cells
  have h03 : w.heap.size < w3.heap.size := by omega
  unfold fa
  go_wp2
  exact bodyPost_ret (v := .agg #[.string mt, .float .f64 0, .string ⟨#[35, 86, 65, 76, 85, 69, 33]⟩, .slice none 0 0, .slice none 0 0, .bool false, .string ⟨#[35, 86, 65, 76, 85, 69, 33]⟩, .int .u8 5, .pointer none, .pointer none]) (by simp [results, Tryz.results49, go_sem, sv, mt, *]) rfl ⟨rfl, (by repeat (first | (with_reducible exact Fr.refl _) | ((with_reducible refine Fr.set ?_ ?_ _); focus (simp; done)) | (with_reducible refine Fr.alloc ?_ _) | (with_reducible refine Fr.drew ?_) | (with_reducible refine Fr.step ?_ (by assumption))))⟩
set_option maxRecDepth 100000 in
set_option maxHeartbeats 1000000 in
theorem doorArg_num (x : Nat) (w : World) :
    Calls Tryz.prog 32 #[fa 1 x mt mt] w fun e w' => e = .returned (iv 1 x mt) ∧ Fr w w' := by
  unfold fa
  go_enter Tryz.func32, Tryz.ntmps32
  go_wp2
  exact bodyPost_ret (v := .agg #[.int .i64 1, .float .f64 x, .string mt, .slice none 0 0]) (by simp [results, Tryz.results32, go_sem, sv, mt, *]) rfl ⟨rfl, (by repeat (first | (with_reducible exact Fr.refl _) | ((with_reducible refine Fr.set ?_ ?_ _); focus (simp; done)) | (with_reducible refine Fr.alloc ?_ _) | (with_reducible refine Fr.drew ?_) | (with_reducible refine Fr.step ?_ (by assumption))))⟩
set_option maxRecDepth 100000 in
set_option maxHeartbeats 1000000 in
theorem doorArg_err (s t : ByteArray) (w : World) :
    Calls Tryz.prog 32 #[fa 5 0 s t] w fun e w' => e = .returned (iv 4 0 s) ∧ Fr w w' := by
  unfold fa
  go_enter Tryz.func32, Tryz.ntmps32
  go_wp2
  exact bodyPost_ret (v := .agg #[.int .i64 4, .float .f64 0, .string s, .slice none 0 0]) (by simp [results, Tryz.results32, go_sem, sv, mt, *]) rfl ⟨rfl, (by repeat (first | (with_reducible exact Fr.refl _) | ((with_reducible refine Fr.set ?_ ?_ _); focus (simp; done)) | (with_reducible refine Fr.alloc ?_ _) | (with_reducible refine Fr.drew ?_) | (with_reducible refine Fr.step ?_ (by assumption))))⟩
set_option maxRecDepth 100000 in
set_option maxHeartbeats 1000000 in
theorem doorArg_text (s t : ByteArray) (w : World) :
    Calls Tryz.prog 32 #[fa 2 0 s t] w fun e w' => e = .returned (iv 2 0 s) ∧ Fr w w' := by
  unfold fa
  go_enter Tryz.func32, Tryz.ntmps32
  go_wp2
  exact bodyPost_ret (v := .agg #[.int .i64 2, .float .f64 0, .string s, .slice none 0 0]) (by simp [results, Tryz.results32, go_sem, sv, mt, *]) rfl ⟨rfl, (by repeat (first | (with_reducible exact Fr.refl _) | ((with_reducible refine Fr.set ?_ ?_ _); focus (simp; done)) | (with_reducible refine Fr.alloc ?_ _) | (with_reducible refine Fr.drew ?_) | (with_reducible refine Fr.step ?_ (by assumption))))⟩
set_option maxRecDepth 100000 in
set_option maxHeartbeats 1000000 in
theorem out_any (k : Int) (x : Nat) (s : ByteArray) (w : World) :
    Calls Tryz.prog 22 #[iv k x s] w fun e w' => e = .returned (iv k x s) ∧ Fr w w' := by
  unfold iv
  go_enter Tryz.func22, Tryz.ntmps22
  go_wp2
  go_loop [19] (fun i => i = .int .i64 0) (fun i => 0)
  case atStart => rfl
  case round =>
    subst hrel
    go_wp2
    exact bodyPost_ret (v := .agg #[.int .i64 k, .float .f64 x, .string s, .slice none 0 0]) (by simp [results, Tryz.results22, go_sem, sv, mt, *]) rfl ⟨rfl, (by repeat (first | (with_reducible exact Fr.refl _) | ((with_reducible refine Fr.set ?_ ?_ _); focus (simp; done)) | (with_reducible refine Fr.alloc ?_ _) | (with_reducible refine Fr.drew ?_) | (with_reducible refine Fr.step ?_ (by assumption))))⟩
end Go.Proofs.YtcmpfcijockmhaaGreatDoor
