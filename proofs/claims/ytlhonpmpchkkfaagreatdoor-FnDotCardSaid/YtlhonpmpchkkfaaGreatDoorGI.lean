import Derived.Test.YtlhonpmpchkkfaaGreatDoorN10
import Derived.Test.YtlhonpmpchkkfaaGreatDoorGE
import Derived.Laws.MakeOwn
import Derived.Laws.IdiomStrings
import Derived.Lib.BufferRead
set_option linter.unusedSimpArgs false
set_option linter.unusedVariables false
/- A whole number below 2^20 as text, in the format %g. -/
namespace Go.Proofs.YtlhonpmpchkkfaaGreatDoor
open Go.RowKit
open Fl
open Go.Lib (dg nDigits FmtInv decDigits)
theorem itoa_neg (n : Int) (h : n < 0) : Lib.itoa n = 45 :: decDigits n.natAbs := by unfold Lib.itoa; rw [if_pos h]
theorem itoa_pos (n : Int) (h : ¬ n < 0) : Lib.itoa n = decDigits n.natAbs := by unfold Lib.itoa; rw [if_neg h, show n.toNat = n.natAbs by omega]
theorem nDigits6 (n : Nat) (h : n < 1000000) : nDigits n ≤ 6 := by
  rcases Nat.lt_or_ge (nDigits n) 7 with h7 | h7
  · omega
  · by_cases h10 : n < 10
    · rw [Lib.nDigits_small h10]; omega
    · rw [Lib.nDigits_big h10] at h7 ⊢
      have key : ∀ (j m : Nat), m < 10 ^ j → 1 ≤ j → nDigits m ≤ j := by
        intro j
        induction j with
        | zero => intro m _ h; omega
        | succ j ih =>
          intro m hm _
          by_cases hm10 : m < 10
          · rw [Lib.nDigits_small hm10]; omega
          · rw [Lib.nDigits_big hm10]
            have : 1 ≤ j := by
              rcases Nat.eq_zero_or_pos j with h0 | h0
              · subst h0; simp at hm; omega
              · exact h0
            have := ih (m / 10) (by rw [Nat.pow_succ] at hm; omega) this
            omega
      have := key 5 (n / 10) (by omega) (by omega)
      omega
/-- The trimmed digits of a number are not more than its own. -/
theorem trim_le (m k z : Nat) (hm : 1 ≤ m) (h : Trimmed (m * 10 ^ k) (nDigits m + k) z) : z ≤ nDigits m := by
  obtain ⟨h1, h2, h3⟩ := h
  rcases Nat.lt_or_ge (nDigits m) z with hz | hz
  · rcases h3 with rfl | h3
    · omega
    · exact absurd (dg_low m k (nDigits m + k - z) (by omega)) h3
  · exact hz
set_option maxRecDepth 100000 in
theorem ftoa64_int (hM : MulC) (hLc : LenC) (hNc : NumC) (hFc : FmtC) (B : Nat) (dst : Value) (n : Int) (w : World) (h0 : n ≠ 0) (hn : n.natAbs < 1000000) (ht : PT w) (hd : DT w)
    (hown : w.ownsRow B 5 1 dst 0 []) (hB : B ≤ w.heap.size) :
    Calls Tryz.prog 72 #[dst, .float .f64 (fw n), .int .u8 103, .int .i64 (-1)] w fun e w' => ∃ v,
      e = .returned v ∧ w'.ownsRow B 5 1 v (Lib.itoa n).length (Lib.byteCells (Lib.itoa n)) ∧ (∀ w0, w0.heap.size ≤ B → Fr w0 w → Fr w0 w') := by
  have hp : 0 < n.natAbs := by omega
  obtain ⟨q1, q2, q3, q4⟩ := fw_parts n h0 (by omega)
  obtain ⟨hL, hlo, hhi⟩ := log2_of n.natAbs hp (by omega)
  obtain ⟨r1, r2, r3⟩ := sized n.natAbs hp (by omega)
  obtain ⟨l1, l2, l3⟩ := left_end n.natAbs hp (by omega)
  obtain ⟨k, hk9, hk15, hk64, hsf⟩ := shortFloat_whole hM n.natAbs hp (by omega)
  have hp10 : 1 ≤ 10 ^ k := Nat.one_le_pow _ _ (by decide)
  have hk15p : 10 ^ k ≤ 10 ^ 15 := Nat.pow_le_pow_right (by decide) hk15
  have hD1 : 1 ≤ n.natAbs * 10 ^ k := Nat.mul_pos hp hp10
  have hnd := nDigits_mul n.natAbs hp k
  have hn6 := nDigits6 n.natAbs hn
  have hK1 := Lib.nDigits_pos n.natAbs
  have e52 : (fw n : Int) / 4503599627370496 = ((fw n / 4503599627370496 : Nat) : Int) := by omega
  have hm1 : (fw n % 4503599627370496 + 4503599627370496) * 2048 = n.natAbs * 2 ^ (63 - n.natAbs.log2) := by rw [← l1, ← q3]
  have h := ftoa64_core hLc hNc hFc B (fw n) (fw n / 4503599627370496) (fw n % 4503599627370496) (n.natAbs * 2 ^ (63 - n.natAbs.log2)) n.natAbs.log2 k (n.natAbs * 10 ^ k) (nDigits n.natAbs + k) (nDigits n.natAbs) (decide (n < 0)) dst w
    q4 (by by_cases hneg : n < 0 <;> simp [hneg] at q1 ⊢ <;> omega) e52 (by omega) (by rw [i64_and2047]; omega) hL (u64_mant _ q4) (by omega) hm1 l3
    (bitLen53 _ (by rw [q3] ; exact r2) (by rw [q3]; exact r3)) hsf hD1 hk64 hnd (by omega) (by omega) rfl hK1 hn6 (fun z hz => trim_le n.natAbs k z hp hz) ht hd hown hB
  refine h.mono ?_
  rintro e w' ⟨v, z, hz, rfl, hown', hfr⟩
  refine ⟨v, rfl, ?_, hfr⟩
  have hzK := trim_le n.natAbs k z hp hz
  have hl := laid_digits n.natAbs k z hp hzK hz.2.1
  by_cases hneg : n < 0
  · rw [itoa_neg n hneg]
    simp only [hneg, decide_true, if_true] at hown'
    have e : digs [45] (n.natAbs * 10 ^ k) (nDigits n.natAbs + k) z ++ List.replicate (nDigits n.natAbs - z) 48 = 45 :: decDigits n.natAbs := by
      unfold digs; rw [List.append_assoc, hl]; rfl
    rw [e] at hown'
    rwa [List.length_cons, Lib.decDigits_length, Nat.add_comm]
  · rw [itoa_pos n hneg]
    simp only [hneg, decide_false, if_false, Bool.false_eq_true, Nat.zero_add] at hown'
    have e : digs [] (n.natAbs * 10 ^ k) (nDigits n.natAbs + k) z ++ List.replicate (nDigits n.natAbs - z) 48 = decDigits n.natAbs := by
      unfold digs; rw [List.nil_append, hl]
    rw [e] at hown'
    rwa [Lib.decDigits_length]
end Go.Proofs.YtlhonpmpchkkfaaGreatDoor
/- FormatFloat of a whole number below 10^6. -/
namespace Go.Proofs.YtlhonpmpchkkfaaGreatDoor
open Go.RowKit
open Fl
open Go.Lib (dg nDigits FmtInv decDigits)
set_option maxRecDepth 100000 in
set_option maxHeartbeats 4000000 in
theorem ftoa64_zero (B : Nat) (dst : Value) (w : World) (hown : w.ownsRow B 5 1 dst 0 []) (hB : B ≤ w.heap.size) :
    Calls Tryz.prog 72 #[dst, .float .f64 0, .int .u8 103, .int .i64 (-1)] w fun e w' => ∃ v,
      e = .returned v ∧ w'.ownsRow B 5 1 v 1 [.int .u8 48] ∧ (∀ w0, w0.heap.size ≤ B → Fr w0 w → Fr w0 w') := by
  have HO := Lib.hid hown; clear hown
  have hbr := bits_run 0
  have e1 : bits .and .i64 0 2047 = 0 := by rw [i64_and2047]; rfl
  have e2 : bits .and .u64 0 4503599627370495 = 0 := by decide +kernel
  go_enter Tryz.func72, Tryz.ntmps72
  go_wp2_with fail
  refine wp_region_any (by kernel_rfl) ?_
  change wpAny _ _ _ _ _ _ _ (World.drew _)
  refine wpAny_take (i := 0) (v := .int .u64 0) rfl (by kernel_rfl) (by kernel_rfl) (by kernel_rfl) (fun _ _ _ h => h) (Or.inl ⟨by rfl, fun W => by first | (go_simp; done) | (go_simp; decide)⟩) ?_
  refine wpAny_take (i := 1) (v := .int .i64 52) rfl (by kernel_rfl) (by kernel_rfl) (by kernel_rfl) (fun _ _ _ h => h) (Or.inl ⟨by rfl, fun W => by first | (go_simp; done) | (go_simp; decide)⟩) ?_
  refine wpAny_take (i := 4) (v := .int .i64 11) rfl (by kernel_rfl) (by kernel_rfl) (by kernel_rfl) (fun _ _ _ h => h) (Or.inl ⟨by rfl, fun W => by first | (go_simp; done) | (go_simp; decide)⟩) ?_
  refine wpAny_take (i := 5) (v := .int .i64 2048) rfl (by kernel_rfl) (by kernel_rfl) (by kernel_rfl) (fun _ _ _ h => h) (Or.inl ⟨by rfl, fun W => by first | (go_simp; done) | (go_simp; decide)⟩) ?_
  refine wpAny_take (i := 6) (v := .int .i64 2047) rfl (by kernel_rfl) (by kernel_rfl) (by kernel_rfl) (fun _ _ _ h => h) (Or.inl ⟨by rfl, fun W => by first | (go_simp; done) | (go_simp; decide)⟩) ?_
  refine wpAny_ready (rs := [2]) (by kernel_rfl) (by simp) ?_; refine AllReady.cons rfl (fun K hK => ?_) AllReady.nil; go_simp; refine hK _ _ ?_; clear hK K
  refine wpAny_ready (rs := [3]) (by kernel_rfl) (by simp) ?_; refine AllReady.cons rfl (fun K hK => ?_) AllReady.nil; go_simp; refine hK _ _ ?_; clear hK K
  refine wpAny_ready (rs := [7]) (by kernel_rfl) (by simp) ?_; refine AllReady.cons rfl (fun K hK => ?_) AllReady.nil; go_simp; refine hK _ _ ?_; clear hK K
  refine wpAny_ready (rs := [8]) (by kernel_rfl) (by simp) ?_; refine AllReady.cons rfl (fun K hK => ?_) AllReady.nil; go_simp; refine hK _ _ ?_; clear hK K
  refine wpAny_done (by kernel_rfl) ?_ _
  go_wp2_with fail
  refine (fmtEFG_zero B dst _ (own_fr HO.out (by repeat (first | (with_reducible exact Fr.refl _) | ((with_reducible refine Fr.set ?_ ?_ _); focus (simp; done)) | (with_reducible refine Fr.alloc ?_ _) | (with_reducible refine Fr.drew ?_) | (with_reducible refine Fr.step ?_ (by assumption))))) (by simp; omega)).mono ?_
  rintro e w1 ⟨v, rfl, hown1, hfr1⟩
  have Hown1 := Lib.hid hown1; clear hown1
  have hfr2 : ∀ w0, w0.heap.size ≤ B → Fr w0 w → Fr w0 w1 := fun w0 h0 h => hfr1 w0 h0 h.drew
  clear hfr1
  go_wp2
  go_ret
  exact ⟨_, rfl, Hown1.out, hfr2⟩
/-- The text of a whole number. -/
def numT (n : Int) : ByteArray := ⟨(Lib.itoa n).toArray⟩
theorem itoa_zero : Lib.byteCells (Lib.itoa 0) = [.int .u8 48] := by
  have : Lib.itoa 0 = [48] := by unfold Lib.itoa; rw [if_neg (by decide), decDigits, dif_pos (by decide)]; rfl
  rw [this]; rfl
theorem itoa_len_pos (n : Int) : 0 < (Lib.itoa n).length := by
  unfold Lib.itoa
  split
  · simp
  · rw [Lib.decDigits_length]; exact Lib.nDigits_pos _
theorem ftoa64_any (hM : MulC) (hLc : LenC) (hNc : NumC) (hFc : FmtC) (B : Nat) (dst : Value) (n : Int) (w : World) (hn : n.natAbs < 1000000) (ht : PT w) (hd : DT w)
    (hown : w.ownsRow B 5 1 dst 0 []) (hB : B ≤ w.heap.size) :
    Calls Tryz.prog 72 #[dst, .float .f64 (fw n), .int .u8 103, .int .i64 (-1)] w fun e w' => ∃ v,
      e = .returned v ∧ w'.ownsRow B 5 1 v (Lib.itoa n).length (Lib.byteCells (Lib.itoa n)) ∧ (∀ w0, w0.heap.size ≤ B → Fr w0 w → Fr w0 w') := by
  by_cases h0 : n = 0
  · subst h0
    rw [fw_zero, itoa_zero]
    have : (Lib.itoa 0).length = 1 := by have := congrArg List.length itoa_zero; rw [Lib.byteCells_length] at this; simpa using this
    rw [this]
    exact ftoa64_zero B dst w hown hB
  · exact ftoa64_int hM hLc hNc hFc B dst n w h0 hn ht hd hown hB
set_option maxRecDepth 100000 in
set_option maxHeartbeats 4000000 in
theorem FormatFloat_in (hM : MulC) (hLc : LenC) (hNc : NumC) (hFc : FmtC) (n : Int) (w : World) (hn : n.natAbs < 1000000) (ht : PT w) (hd : DT w) :
    Calls Tryz.prog 65 #[.float .f64 (fw n), .int .u8 103, .int .i64 (-1), .int .i64 64] w fun e w' => e = .returned (.string (numT n)) ∧ Fr w w' := by
  have HF := Lib.hid (fun B dst w ht hd hown hB => ftoa64_any hM hLc hNc hFc B dst n w hn ht hd hown hB)
  have Ht := Lib.hid ht; clear ht
  have Hd := Lib.hid hd; clear hd
  clear hM hLc hNc hFc hn
  obtain ⟨i0, hi, hz0, hz1, hz2⟩ := info_u8
  obtain ⟨w0, hmk, hown0, hgr⟩ := run_make_own (P := Tryz.prog) w w.heap.size 118 5 i0 (.int .u8 0) 1 Tryz.underlying118 hi hz0 hz1 .i64 .i64 24 (by rw [hz2]; decide) (by decide) (Nat.le_refl _)
  have hmk : (Instr.makeSlice 118 (.int .i64 0) (.int .i64 24)).run Tryz.prog w = .ok (.slice (some ⟨w.heap.size, 0, none⟩) 0 24) w0 := hmk
  have hf0 : Fr w w0 := (Fr.refl w).grown hgr (by simp)
  have hs0 := hgr.size
  have HO := Lib.hid hown0; clear hown0 hgr
  clear hi hz0 hz1 hz2
  go_enter Tryz.func65, Tryz.ntmps65
  go_wp2_with fail
  refine (HF.out w.heap.size _ _ (Ht.out.fr hf0) (Hd.out.fr hf0) HO.out hs0).mono ?_
  rintro e w1 ⟨v, rfl, hown1, hfr1⟩
  have hf1 := hfr1 w (Nat.le_refl _) hf0
  have hlp := itoa_len_pos n
  rcases hown1.2 with ⟨_, h0⟩ | ⟨g, cap, cur, rfl, hbg, hg, hnc, hcm, hcs, htk⟩
  · omega
  rw [Nat.mul_one] at htk
  have hcv := run_convert_bytes_back (P := Tryz.prog) w1 118 9 5 ⟨g, 0, none⟩ cap (Lib.itoa n) Tryz.underlying118 Tryz.underlying5 Tryz.underlying9 (Lib.bytes_of_row hg htk)
  clear hown1 hg hcs htk hfr1
  go_wp2
  go_ret
  exact ⟨rfl, hf1⟩
set_option maxRecDepth 100000 in
set_option maxHeartbeats 1000000 in
theorem FormatFloat_any (hM : MulC) (hLc : LenC) (hNc : NumC) (hFc : FmtC) (n : Int) (w : World) (hn : n.natAbs < 1000000) (ht : PT w) (hd : DT w) :
    Calls Tryz.prog 58 #[.float .f64 (fw n), .int .u8 103, .int .i64 (-1), .int .i64 64] w fun e w' => e = .returned (.string (numT n)) ∧ Fr w w' := by
  have HF := Lib.hid (FormatFloat_in hM hLc hNc hFc n w hn ht hd)
  clear hM hLc hNc hFc hn ht hd
  go_enter Tryz.func58, Tryz.ntmps58
  go_wp2_with fail
  refine HF.out.mono ?_
  rintro e w1 ⟨rfl, hf1⟩
  go_wp2
  go_ret
  exact ⟨rfl, hf1⟩
set_option maxRecDepth 100000 in
set_option maxHeartbeats 1000000 in
theorem Value_num (hM : MulC) (hLc : LenC) (hNc : NumC) (hFc : FmtC) (n : Int) (w : World) (hn : n.natAbs < 1000000) (ht : PT w) (hd : DT w) :
    Calls Tryz.prog 45 #[fa 1 (fw n) mt mt] w fun e w' => e = .returned (.string (numT n)) ∧ Fr w w' := by
  have HF := Lib.hid (fun w ht hd => FormatFloat_any hM hLc hNc hFc n w hn ht hd)
  have Ht := Lib.hid ht; clear ht
  have Hd := Lib.hid hd; clear hd
  clear hM hLc hNc hFc hn
  unfold fa
  go_enter Tryz.func45, Tryz.ntmps45
  go_wp2_with fail
  refine (HF.out _ (Ht.out.fr (by repeat (first | (with_reducible exact Fr.refl _) | ((with_reducible refine Fr.set ?_ ?_ _); focus (simp; done)) | (with_reducible refine Fr.alloc ?_ _) | (with_reducible refine Fr.drew ?_) | (with_reducible refine Fr.step ?_ (by assumption))))) (Hd.out.fr (by repeat (first | (with_reducible exact Fr.refl _) | ((with_reducible refine Fr.set ?_ ?_ _); focus (simp; done)) | (with_reducible refine Fr.alloc ?_ _) | (with_reducible refine Fr.drew ?_) | (with_reducible refine Fr.step ?_ (by assumption)))))).mono ?_
  rintro e w1 ⟨rfl, hf1⟩
  go_wp2
  go_ret
  exact ⟨rfl, (by repeat (first | (with_reducible exact Fr.refl _) | ((with_reducible refine Fr.set ?_ ?_ _); focus (simp; done)) | (with_reducible refine Fr.alloc ?_ _) | (with_reducible refine Fr.drew ?_) | (with_reducible refine Fr.step ?_ (by assumption))))⟩
end Go.Proofs.YtlhonpmpchkkfaaGreatDoor
