import Derived.Test.YtnpnclhjfemldaaGreatDoorA6
import Derived.Test.YtnpnclhjfemldaaGreatDoorS25
import Derived.Laws.MakeOwn
import Derived.Laws.IdiomStrings
import Derived.Lib.BufferRead
set_option linter.unusedSimpArgs false
set_option linter.unusedVariables false
/- FormatFloat of a whole number below 10^6. -/
namespace Go.Proofs.YtnpnclhjfemldaaGreatDoor
open Go.RowKit
open Fl
open Go.Lib (dg nDigits FmtInv decDigits)
set_option maxRecDepth 100000 in
set_option maxHeartbeats 4000000 in
theorem ftoa64_zero (B : Nat) (dst : Value) (w : World) (hown : w.ownsRow B 5 1 dst 0 []) (hB : B ≤ w.heap.size) :
    Calls Tryz.prog 218 #[dst, .float .f64 0, .int .u8 103, .int .i64 (-1)] w fun e w' => ∃ v,
      e = .returned v ∧ w'.ownsRow B 5 1 v 1 [.int .u8 48] ∧ (∀ w0, w0.heap.size ≤ B → Fr w0 w → Fr w0 w') := by
  have HO := Lib.hid hown; clear hown
  have hbr := bits_run 0
  have e1 : bits .and .i64 0 2047 = 0 := by rw [i64_and2047]; rfl
  have e2 : bits .and .u64 0 4503599627370495 = 0 := by decide +kernel
  go_enter Tryz.func218, Tryz.ntmps218
  go_wp2_with fail
  refine wp_region_any (by kernel_rfl) ?_
  change wpAny _ _ _ _ _ _ _ (World.drew _)
  refine wpAny_take (i := 0) (v := .int .u64 0) rfl (by kernel_rfl) (by kernel_rfl) (by kernel_rfl) (fun _ _ _ h => h) (Or.inl ⟨by rfl, fun W => by first | (go_simp; done) | (go_simp; decide)⟩) ?_
  refine wpAny_take (i := 1) (v := .int .i64 52) rfl (by kernel_rfl) (by kernel_rfl) (by kernel_rfl) (fun _ _ _ h => h) (Or.inl ⟨by rfl, fun W => by first | (go_simp; done) | (go_simp; decide)⟩) ?_
  refine wpAny_take (i := 4) (v := .int .i64 11) rfl (by kernel_rfl) (by kernel_rfl) (by kernel_rfl) (fun _ _ _ h => h) (Or.inl ⟨by rfl, fun W => by first | (go_simp; done) | (go_simp; decide)⟩) ?_
  refine wpAny_take (i := 5) (v := .int .i64 2048) rfl (by kernel_rfl) (by kernel_rfl) (by kernel_rfl) (fun _ _ _ h => h) (Or.inl ⟨by rfl, fun W => by first | (go_simp; done) | (go_simp; decide)⟩) ?_
  refine wpAny_take (i := 6) (v := .int .i64 2047) rfl (by kernel_rfl) (by kernel_rfl) (by kernel_rfl) (fun _ _ _ h => h) (Or.inl ⟨by rfl, fun W => by first | (go_simp; done) | (go_simp; decide)⟩) ?_
  refine wpAny_ready (rs := [2]) (by kernel_rfl) (by simp) ?_; refine AllReady.cons rfl (fun K hK => ?_) AllReady.nil; go_simp; refine hK _ _ ?_; clear hK K
  refine wpAny_ready (rs := [3]) (by kernel_rfl) (by simp) ?_; refine AllReady.cons rfl (fun K hK => ?_) AllReady.nil; go_simp; refine hK _ _ ?_; clear hK K
  refine wpAny_ready (rs := [7]) (by kernel_rfl) (by simp) ?_; refine AllReady.cons rfl (fun K hK => ?_) AllReady.nil; go_simp; refine hK _ _ ?_; clear hK K
  refine wpAny_ready (rs := [8]) (by kernel_rfl) (by simp) ?_; refine AllReady.cons rfl (fun K hK => ?_) AllReady.nil; go_simp; refine hK _ _ ?_; clear hK K
  refine wpAny_done (by kernel_rfl) ?_ _
  go_wp2_with fail
  refine (fmtEFG_zero B dst _ (own_fr HO.out (by repeat (first | (with_reducible exact Fr.refl _) | ((with_reducible refine Fr.set ?_ ?_ _); focus (simp; done)) | (with_reducible refine Fr.alloc ?_ _) | (with_reducible refine Fr.drew ?_) | (with_reducible refine Fr.step ?_ (by assumption))))) (by simp; omega)).mono ?_
  rintro e w1 ⟨v, rfl, hown1, hfr1⟩
  have Hown1 := Lib.hid hown1; clear hown1
  have hfr2 : ∀ w0, w0.heap.size ≤ B → Fr w0 w → Fr w0 w1 := fun w0 h0 h => hfr1 w0 h0 h.drew
  clear hfr1
  go_wp2
  go_ret
  exact ⟨_, rfl, Hown1.out, hfr2⟩
/-- The text of a whole number. -/
def numT (n : Int) : ByteArray := ⟨(Lib.itoa n).toArray⟩
theorem itoa_zero : Lib.byteCells (Lib.itoa 0) = [.int .u8 48] := by
  have : Lib.itoa 0 = [48] := by unfold Lib.itoa; rw [if_neg (by decide), decDigits, dif_pos (by decide)]; rfl
  rw [this]; rfl
theorem itoa_len_pos (n : Int) : 0 < (Lib.itoa n).length := by
  unfold Lib.itoa
  split
  · simp
  · rw [Lib.decDigits_length]; exact Lib.nDigits_pos _
theorem ftoa64_any (hM : MulC) (hLc : LenC) (hNc : NumC) (hFc : FmtC) (B : Nat) (dst : Value) (n : Int) (w : World) (hn : n.natAbs < 1000000) (ht : PT w) (hd : DT w)
    (hown : w.ownsRow B 5 1 dst 0 []) (hB : B ≤ w.heap.size) :
    Calls Tryz.prog 218 #[dst, .float .f64 (fw n), .int .u8 103, .int .i64 (-1)] w fun e w' => ∃ v,
      e = .returned v ∧ w'.ownsRow B 5 1 v (Lib.itoa n).length (Lib.byteCells (Lib.itoa n)) ∧ (∀ w0, w0.heap.size ≤ B → Fr w0 w → Fr w0 w') := by
  by_cases h0 : n = 0
  · subst h0
    rw [fw_zero, itoa_zero]
    have : (Lib.itoa 0).length = 1 := by have := congrArg List.length itoa_zero; rw [Lib.byteCells_length] at this; simpa using this
    rw [this]
    exact ftoa64_zero B dst w hown hB
  · exact ftoa64_int hM hLc hNc hFc B dst n w h0 hn ht hd hown hB
set_option maxRecDepth 100000 in
set_option maxHeartbeats 4000000 in
theorem FormatFloat_in (hM : MulC) (hLc : LenC) (hNc : NumC) (hFc : FmtC) (n : Int) (w : World) (hn : n.natAbs < 1000000) (ht : PT w) (hd : DT w) :
    Calls Tryz.prog 203 #[.float .f64 (fw n), .int .u8 103, .int .i64 (-1), .int .i64 64] w fun e w' => e = .returned (.string (numT n)) ∧ Fr w w' := by
  have HF := Lib.hid (fun B dst w ht hd hown hB => ftoa64_any hM hLc hNc hFc B dst n w hn ht hd hown hB)
  have Ht := Lib.hid ht; clear ht
  have Hd := Lib.hid hd; clear hd
  clear hM hLc hNc hFc hn
  obtain ⟨i0, hi, hz0, hz1, hz2⟩ := info_u8
  obtain ⟨w0, hmk, hown0, hgr⟩ := run_make_own (P := Tryz.prog) w w.heap.size 145 5 i0 (.int .u8 0) 1 Tryz.underlying145 hi hz0 hz1 .i64 .i64 24 (by rw [hz2]; decide) (by decide) (Nat.le_refl _)
  have hmk : (Instr.makeSlice 145 (.int .i64 0) (.int .i64 24)).run Tryz.prog w = .ok (.slice (some ⟨w.heap.size, 0, none⟩) 0 24) w0 := hmk
  have hf0 : Fr w w0 := (Fr.refl w).grown hgr (by simp)
  have hs0 := hgr.size
  have HO := Lib.hid hown0; clear hown0 hgr
  clear hi hz0 hz1 hz2
  go_enter Tryz.func203, Tryz.ntmps203
  go_wp2_with fail
  refine (HF.out w.heap.size _ _ (Ht.out.fr hf0) (Hd.out.fr hf0) HO.out hs0).mono ?_
  rintro e w1 ⟨v, rfl, hown1, hfr1⟩
  have hf1 := hfr1 w (Nat.le_refl _) hf0
  have hlp := itoa_len_pos n
  rcases hown1.2 with ⟨_, h0⟩ | ⟨g, cap, cur, rfl, hbg, hg, hnc, hcm, hcs, htk⟩
  · omega
  rw [Nat.mul_one] at htk
  have hcv := run_convert_bytes_back (P := Tryz.prog) w1 145 9 5 ⟨g, 0, none⟩ cap (Lib.itoa n) Tryz.underlying145 Tryz.underlying5 Tryz.underlying9 (Lib.bytes_of_row hg htk)
  clear hown1 hg hcs htk hfr1
  go_wp2
  go_ret
  exact ⟨rfl, hf1⟩
set_option maxRecDepth 100000 in
set_option maxHeartbeats 1000000 in
theorem FormatFloat_any (hM : MulC) (hLc : LenC) (hNc : NumC) (hFc : FmtC) (n : Int) (w : World) (hn : n.natAbs < 1000000) (ht : PT w) (hd : DT w) :
    Calls Tryz.prog 112 #[.float .f64 (fw n), .int .u8 103, .int .i64 (-1), .int .i64 64] w fun e w' => e = .returned (.string (numT n)) ∧ Fr w w' := by
  have HF := Lib.hid (FormatFloat_in hM hLc hNc hFc n w hn ht hd)
  clear hM hLc hNc hFc hn ht hd
  go_enter Tryz.func112, Tryz.ntmps112
  go_wp2_with fail
  refine HF.out.mono ?_
  rintro e w1 ⟨rfl, hf1⟩
  go_wp2
  go_ret
  exact ⟨rfl, hf1⟩
set_option maxRecDepth 100000 in
set_option maxHeartbeats 1000000 in
theorem Value_num (hM : MulC) (hLc : LenC) (hNc : NumC) (hFc : FmtC) (n : Int) (w : World) (hn : n.natAbs < 1000000) (ht : PT w) (hd : DT w) :
    Calls Tryz.prog 39 #[fa 1 (fw n) mt mt] w fun e w' => e = .returned (.string (numT n)) ∧ Fr w w' := by
  have HF := Lib.hid (fun w ht hd => FormatFloat_any hM hLc hNc hFc n w hn ht hd)
  have Ht := Lib.hid ht; clear ht
  have Hd := Lib.hid hd; clear hd
  clear hM hLc hNc hFc hn
  unfold fa
  go_enter Tryz.func39, Tryz.ntmps39
  go_wp2_with fail
  refine (HF.out _ (Ht.out.fr (by repeat (first | (with_reducible exact Fr.refl _) | ((with_reducible refine Fr.set ?_ ?_ _); focus (simp; done)) | (with_reducible refine Fr.alloc ?_ _) | (with_reducible refine Fr.drew ?_) | (with_reducible refine Fr.step ?_ (by assumption))))) (Hd.out.fr (by repeat (first | (with_reducible exact Fr.refl _) | ((with_reducible refine Fr.set ?_ ?_ _); focus (simp; done)) | (with_reducible refine Fr.alloc ?_ _) | (with_reducible refine Fr.drew ?_) | (with_reducible refine Fr.step ?_ (by assumption)))))).mono ?_
  rintro e w1 ⟨rfl, hf1⟩
  go_wp2
  go_ret
  exact ⟨rfl, (by repeat (first | (with_reducible exact Fr.refl _) | ((with_reducible refine Fr.set ?_ ?_ _); focus (simp; done)) | (with_reducible refine Fr.alloc ?_ _) | (with_reducible refine Fr.drew ?_) | (with_reducible refine Fr.step ?_ (by assumption))))⟩
end Go.Proofs.YtnpnclhjfemldaaGreatDoor
