import Derived.Test.YtlhonpmpchkkfaaGreatDoorD22
set_option linter.unusedSimpArgs false
set_option linter.unusedVariables false
/- strconv.ParseFloat of a numeral of at most two digits. -/
namespace Go.Proofs.YtlhonpmpchkkfaaGreatDoor
open Go.RowKit
open Fl
open Ieee (double)
/-- The library's word on floats of 64 bits, and that exact ways are taken. -/
def PF (w : World) : Prop := w.cell? ⟨5, 0, none⟩ = some (.int .u64 52) ∧ w.cell? ⟨4, 0, none⟩ = some (.bool true)
theorem PF.fr {w w' : World} (h : PF w) (hf : Fr w w') : PF w' :=
  ⟨(hf.cells.1 _ _ (World.block_lt_of_cell? w _ h.1)).trans h.1, (hf.cells.1 _ _ (World.block_lt_of_cell? w _ h.2)).trans h.2⟩
theorem neg_small : ∀ n : Nat, n < 100 → 0 < n → Op.negFloat .f64 (fw (n : Int)) = fw (-(n : Int)) := by decide +kernel
set_option maxRecDepth 100000 in
set_option maxHeartbeats 2000000 in
theorem atof64exact_pos (x : Int) (w : World) (h1 : 1 ≤ x) (h9 : x ≤ 99) (hp : PF w) :
    Calls Tryz.prog 84 #[.int .u64 x, .int .i64 0, .bool false] w fun e w' => e = .returned (.tuple #[.float .f64 (fw x), .bool true]) ∧ Fr w w' := by
  have hfl : floatOfInt .f64 x = fw x := floatOfInt_fw x (by omega)
  have hc := hp.1
  clear hp
  go_enter Tryz.func84, Tryz.ntmps84
  go_wp2
  exact bodyPost_ret (v := .tuple #[.float .f64 (fw x), .bool true]) (by simp [results, Tryz.results84, go_sem, sv, mt, *]) rfl ⟨rfl, Fr.refl _⟩
set_option maxRecDepth 100000 in
set_option maxHeartbeats 2000000 in
theorem atof64exact_neg (x : Int) (w : World) (h1 : 1 ≤ x) (h9 : x ≤ 99) (hp : PF w) :
    Calls Tryz.prog 84 #[.int .u64 x, .int .i64 0, .bool true] w fun e w' => e = .returned (.tuple #[.float .f64 (fw (-x)), .bool true]) ∧ Fr w w' := by
  have hfl : floatOfInt .f64 x = fw x := floatOfInt_fw x (by omega)
  have hn : ∀ w, (Op.unary .neg (.float .f64 (fw x))).run Tryz.prog w = .ok (.float .f64 (fw (-x))) w := fun w => by
    have h := neg_small x.toNat (by omega) (by omega)
    rw [show ((x.toNat : Nat) : Int) = x by omega] at h
    rw [← h]; rfl
  have hc := hp.1
  clear hp
  go_enter Tryz.func84, Tryz.ntmps84
  go_wp2
  exact bodyPost_ret (v := .tuple #[.float .f64 (fw (-x)), .bool true]) (by simp [results, Tryz.results84, go_sem, sv, mt, *]) rfl ⟨rfl, Fr.refl _⟩
set_option maxRecDepth 100000 in
set_option maxHeartbeats 1000000 in
theorem bool2_no (w : World) :
    Calls Tryz.prog 82 #[.bool false] w fun e w' => e = .returned (.int .u64 0) ∧ w = w' := by
  go_enter Tryz.func82, Tryz.ntmps82
  go_wp2
  go_ret
  exact ⟨rfl, rfl⟩
set_option maxRecDepth 100000 in
set_option maxHeartbeats 1000000 in
theorem bool2_yes (w : World) :
    Calls Tryz.prog 82 #[.bool true] w fun e w' => e = .returned (.int .u64 1) ∧ w = w' := by
  go_enter Tryz.func82, Tryz.ntmps82
  go_wp2
  go_ret
  exact ⟨rfl, rfl⟩
set_option maxRecDepth 100000 in
set_option maxHeartbeats 2000000 in
theorem atof64_of (s : ByteArray) (w : World) (x : Int) (neg : Bool) (h1 : 1 ≤ x) (h9 : x ≤ 99) (hp : PF w)
   (hS : ∀ w, Calls Tryz.prog 73 #[.string s] w fun e w' => e = .returned (.tuple #[.float .f64 0, .int .i64 0, .bool false]) ∧ Fr w w')
   (hR : ∀ w, Calls Tryz.prog 74 #[.string s] w fun e w' => e = .returned (.tuple #[.int .u64 x, .int .i64 0, .bool neg, .bool false, .bool false, .int .i64 s.size, .bool true]) ∧ Fr w w') :
    Calls Tryz.prog 67 #[.string s] w fun e w' => e = .returned (.tuple #[.float .f64 (fw (if neg then -x else x)), .int .i64 s.size, .nilIface]) ∧ Fr w w' := by
  have HS := Lib.hid hS; clear hS
  have HR := Lib.hid hR; clear hR
  have HP := Lib.hid hp; clear hp
  have x0 : (x == 0) = false := by simp; omega
  have HE := Lib.hid (show ∀ w, PF w → Calls Tryz.prog 84 #[.int .u64 x, .int .i64 0, .bool neg] w fun e w' => e = .returned (.tuple #[.float .f64 (fw (if neg then -x else x)), .bool true]) ∧ Fr w w' by
    intro w hp
    cases neg
    · exact atof64exact_pos x w h1 h9 hp
    · exact atof64exact_neg x w h1 h9 hp)
  generalize fw (if neg then -x else x) = f at *
  cases neg
  · go_enter Tryz.func67, Tryz.ntmps67
    go_wp2_with fail
    refine (HS.out _).mono ?_
    rintro e w1 ⟨rfl, hf1⟩
    go_wp2_with fail
    refine (HR.out _).mono ?_
    rintro e w2 ⟨rfl, hf2⟩
    have hf3 := hf1.step hf2
    have hp2 := (HP.out.fr hf3).2
    go_wp2_with fail
    refine (bool2_no _).mono ?_
    rintro e w3 ⟨rfl, rfl⟩
    go_wp2_with fail
    refine (HE.out _ (HP.out.fr hf3)).mono ?_
    rintro e w4 ⟨rfl, hf4⟩
    go_wp2_with fail
    exact bodyPost_ret (v := .tuple #[.float .f64 f, .int .i64 s.size, .nilIface]) (by simp [results, Tryz.results67, go_sem, sv, mt, *]) rfl ⟨rfl, hf3.step hf4⟩
  · go_enter Tryz.func67, Tryz.ntmps67
    go_wp2_with fail
    refine (HS.out _).mono ?_
    rintro e w1 ⟨rfl, hf1⟩
    go_wp2_with fail
    refine (HR.out _).mono ?_
    rintro e w2 ⟨rfl, hf2⟩
    have hf3 := hf1.step hf2
    have hp2 := (HP.out.fr hf3).2
    go_wp2_with fail
    refine (bool2_yes _).mono ?_
    rintro e w3 ⟨rfl, rfl⟩
    go_wp2_with fail
    refine (HE.out _ (HP.out.fr hf3)).mono ?_
    rintro e w4 ⟨rfl, hf4⟩
    go_wp2_with fail
    exact bodyPost_ret (v := .tuple #[.float .f64 f, .int .i64 s.size, .nilIface]) (by simp [results, Tryz.results67, go_sem, sv, mt, *]) rfl ⟨rfl, hf3.step hf4⟩
set_option maxRecDepth 100000 in
set_option maxHeartbeats 1000000 in
theorem parsePrefix_of (s : ByteArray) (w : World) (f : Nat) (hp : PF w) (hA : ∀ w, PF w → Calls Tryz.prog 67 #[.string s] w fun e w' => e = .returned (.tuple #[.float .f64 f, .int .i64 s.size, .nilIface]) ∧ Fr w w') :
    Calls Tryz.prog 60 #[.string s, .int .i64 64] w fun e w' => e = .returned (.tuple #[.float .f64 f, .int .i64 s.size, .nilIface]) ∧ Fr w w' := by
  have HA := Lib.hid (hA w hp); clear hA hp
  go_enter Tryz.func60, Tryz.ntmps60
  go_wp2_with fail
  refine HA.out.mono ?_
  rintro e w1 ⟨rfl, hf1⟩
  go_wp2
  exact bodyPost_ret (v := .tuple #[.float .f64 f, .int .i64 s.size, .nilIface]) (by simp [results, Tryz.results60, go_sem, sv, mt, *]) rfl ⟨rfl, hf1⟩
set_option maxRecDepth 100000 in
set_option maxHeartbeats 1000000 in
theorem ParseFloatIn_of (s : ByteArray) (w : World) (f : Nat) (hp : PF w) (hA : ∀ w, PF w → Calls Tryz.prog 67 #[.string s] w fun e w' => e = .returned (.tuple #[.float .f64 f, .int .i64 s.size, .nilIface]) ∧ Fr w w') :
    Calls Tryz.prog 56 #[.string s, .int .i64 64] w fun e w' => e = .returned (.tuple #[.float .f64 f, .nilIface]) ∧ Fr w w' := by
  have HA := Lib.hid (parsePrefix_of s w f hp hA); clear hA hp
  go_enter Tryz.func56, Tryz.ntmps56
  go_wp2_with fail
  refine HA.out.mono ?_
  rintro e w1 ⟨rfl, hf1⟩
  go_wp2
  exact bodyPost_ret (v := .tuple #[.float .f64 f, .nilIface]) (by simp [results, Tryz.results56, go_sem, sv, mt, *]) rfl ⟨rfl, hf1⟩
set_option maxRecDepth 100000 in
set_option maxHeartbeats 1000000 in
theorem ParseFloat_of (s : ByteArray) (w : World) (f : Nat) (hp : PF w) (hA : ∀ w, PF w → Calls Tryz.prog 67 #[.string s] w fun e w' => e = .returned (.tuple #[.float .f64 f, .int .i64 s.size, .nilIface]) ∧ Fr w w') :
    Calls Tryz.prog 44 #[.string s, .int .i64 64] w fun e w' => e = .returned (.tuple #[.float .f64 f, .nilIface]) ∧ Fr w w' := by
  have HA := Lib.hid (ParseFloatIn_of s w f hp hA); clear hA hp
  go_enter Tryz.func44, Tryz.ntmps44
  go_wp2_with fail
  refine HA.out.mono ?_
  rintro e w1 ⟨rfl, hf1⟩
  go_wp2
  exact bodyPost_ret (v := .tuple #[.float .f64 f, .nilIface]) (by simp [results, Tryz.results44, go_sem, sv, mt, *]) rfl ⟨rfl, hf1⟩
end Go.Proofs.YtlhonpmpchkkfaaGreatDoor
/- strconv.ParseFloat of the numeral of a number from -99 to 99. -/
namespace Go.Proofs.YtlhonpmpchkkfaaGreatDoor
open Go.RowKit
open Fl
open Ieee (double)
open Go.Lib (decDigits)
set_option maxRecDepth 100000 in
set_option maxHeartbeats 4000000 in
theorem readFloat_nought (s : ByteArray) (w : World) (h1 : s.size = 1) (h48 : s[0].toNat = 48) :
    Calls Tryz.prog 74 #[.string s] w fun e w' => e = .returned (.tuple #[.int .u64 0, .int .i64 0, .bool false, .bool false, .bool false, .int .i64 s.size, .bool true]) ∧ Fr w w' := by
  have hne : ¬ s = ByteArray.empty := by rintro rfl; simp at h1
  have h0 : 0 < s.size := by omega
  go_enter Tryz.func74, Tryz.ntmps74
  go_wp2
  go_step3
  go_wp2
  go_step3
  go_wp2
  go_loopw [2, 5, 7, 9, 13, 14, 15, 16, 17] (fun m tr i us dt sd nd nm dp W => ((i = .int .i64 0 ∧ sd = .bool false ∧ dp = .int .i64 0) ∨ (i = .int .i64 1 ∧ sd = .bool true ∧ dp = .int .i64 (-1))) ∧ m = .int .u64 0 ∧ nd = .int .i64 0 ∧ nm = .int .i64 0 ∧ tr = .bool false ∧ us = .bool false ∧ dt = .bool false ∧ W = w) (fun _ _ i _ _ _ _ _ _ _ => 1 - (intOf i).toNat)
  case atStart => exact ⟨.inl ⟨rfl, rfl, rfl⟩, rfl, rfl, rfl, rfl, rfl, rfl, rfl⟩
  case round =>
    obtain ⟨⟨rfl, rfl, rfl⟩ | ⟨rfl, rfl, rfl⟩, rfl, rfl, rfl, rfl, rfl, rfl, rfl⟩ := hrel
    · go_wp2
      go_roundw
      case rel => exact ⟨.inr ⟨rfl, rfl, rfl⟩, rfl, rfl, rfl, rfl, rfl, rfl, trivial⟩
      case measure => simp [intOf]
    · go_wp2
      rw [Exit.noGoto_ret]
      exact bodyPost_ret (v := .tuple #[.int .u64 0, .int .i64 0, .bool false, .bool false, .bool false, .int .i64 s.size, .bool true]) (by simp [results, Tryz.results74, go_sem, sv, mt, *]) rfl ⟨rfl, Fr.refl _⟩
set_option maxRecDepth 100000 in
set_option maxHeartbeats 2000000 in
theorem atof64_nought (s : ByteArray) (w : World) (hp : PF w)
   (hS : ∀ w, Calls Tryz.prog 73 #[.string s] w fun e w' => e = .returned (.tuple #[.float .f64 0, .int .i64 0, .bool false]) ∧ Fr w w')
   (hR : ∀ w, Calls Tryz.prog 74 #[.string s] w fun e w' => e = .returned (.tuple #[.int .u64 0, .int .i64 0, .bool false, .bool false, .bool false, .int .i64 s.size, .bool true]) ∧ Fr w w') :
    Calls Tryz.prog 67 #[.string s] w fun e w' => e = .returned (.tuple #[.float .f64 0, .int .i64 s.size, .nilIface]) ∧ Fr w w' := by
  have HS := Lib.hid hS; clear hS
  have HR := Lib.hid hR; clear hR
  have HP := Lib.hid hp; clear hp
  have hor : bits .or .u64 0 0 = 0 := by decide +kernel
  have h83 : ∀ w, (callFunc 83 #[.int .u64 0]).run Tryz.prog w = .ok (.value (.float .f64 0)) w := fun w => by kernel_rfl
  go_enter Tryz.func67, Tryz.ntmps67
  go_wp2_with fail
  refine (HS.out _).mono ?_
  rintro e w1 ⟨rfl, hf1⟩
  go_wp2_with fail
  refine (HR.out _).mono ?_
  rintro e w2 ⟨rfl, hf2⟩
  have hf3 := hf1.step hf2
  have hp2 := (HP.out.fr hf3).2
  go_wp2_with fail
  refine (bool2_no _).mono ?_
  rintro e w3 ⟨rfl, rfl⟩
  go_wp2
  exact bodyPost_ret (v := .tuple #[.float .f64 0, .int .i64 s.size, .nilIface]) (by simp [results, Tryz.results67, go_sem, sv, mt, *]) rfl ⟨rfl, hf3⟩
theorem dec_one (u : Nat) (h : u < 10) : decDigits u = [UInt8.ofNat (48 + u)] := by rw [decDigits, dif_pos h]
theorem dec_two (u : Nat) (h : 10 ≤ u) (h2 : u < 100) : decDigits u = [UInt8.ofNat (48 + u / 10), UInt8.ofNat (48 + u % 10)] := by
  rw [decDigits, dif_neg (by omega), dec_one _ (by omega)]; rfl
theorem of48 (d : Nat) (h : d < 10) : (UInt8.ofNat (48 + d)).toNat = 48 + d := by simp; omega
/-- What the numeral of a number that is not nought is, byte by byte. -/
structure Numeral (s : ByteArray) (g m : Nat) : Prop where
  lo : g < s.size
  hi : s.size ≤ g + 2
  first : s[g].toNat ≠ 48
  dig : ∀ i (h : i < s.size), g ≤ i → 48 ≤ s[i].toNat ∧ s[i].toNat ≤ 57
  val : rdV s g (s.size - g) = m
theorem numeral_pos (m : Nat) (h1 : 1 ≤ m) (h9 : m ≤ 99) : Numeral ⟨(decDigits m).toArray⟩ 0 m := by
  by_cases h : m < 10
  · rw [dec_one m h]
    have e := of48 m h
    refine ⟨(show 0 < 1 by decide), (show 1 ≤ 0 + 2 by decide), ?_, ?_, ?_⟩
    · show (UInt8.ofNat (48 + m)).toNat ≠ 48; omega
    · intro i hi _
      have : i = 0 := by have : i < 1 := hi; omega
      subst this
      show 48 ≤ (UInt8.ofNat (48 + m)).toNat ∧ (UInt8.ofNat (48 + m)).toNat ≤ 57
      rw [e]; omega
    · show 0 * 10 + ((UInt8.ofNat (48 + m)).toNat - 48) = m
      omega
  · rw [dec_two m (by omega) (by omega)]
    have e1 := of48 (m / 10) (by omega)
    have e2 := of48 (m % 10) (by omega)
    refine ⟨(show 0 < 2 by decide), (show 2 ≤ 0 + 2 by decide), ?_, ?_, ?_⟩
    · show (UInt8.ofNat (48 + m / 10)).toNat ≠ 48; omega
    · intro i hi _
      have : i = 0 ∨ i = 1 := by have : i < 2 := hi; omega
      rcases this with rfl | rfl
      · show 48 ≤ (UInt8.ofNat (48 + m / 10)).toNat ∧ (UInt8.ofNat (48 + m / 10)).toNat ≤ 57
        rw [e1]; omega
      · show 48 ≤ (UInt8.ofNat (48 + m % 10)).toNat ∧ (UInt8.ofNat (48 + m % 10)).toNat ≤ 57
        rw [e2]; omega
    · show (0 * 10 + ((UInt8.ofNat (48 + m / 10)).toNat - 48)) * 10 + ((UInt8.ofNat (48 + m % 10)).toNat - 48) = m
      omega
theorem numeral_neg (m : Nat) (h1 : 1 ≤ m) (h9 : m ≤ 99) : Numeral ⟨(45 :: decDigits m).toArray⟩ 1 m := by
  by_cases h : m < 10
  · rw [dec_one m h]
    have e := of48 m h
    refine ⟨(show 1 < 2 by decide), (show 2 ≤ 1 + 2 by decide), ?_, ?_, ?_⟩
    · show (UInt8.ofNat (48 + m)).toNat ≠ 48; omega
    · intro i hi hg
      have : i = 1 := by have : i < 2 := hi; omega
      subst this
      show 48 ≤ (UInt8.ofNat (48 + m)).toNat ∧ (UInt8.ofNat (48 + m)).toNat ≤ 57
      rw [e]; omega
    · show 0 * 10 + ((UInt8.ofNat (48 + m)).toNat - 48) = m
      omega
  · rw [dec_two m (by omega) (by omega)]
    have e1 := of48 (m / 10) (by omega)
    have e2 := of48 (m % 10) (by omega)
    refine ⟨(show 1 < 3 by decide), (show 3 ≤ 1 + 2 by decide), ?_, ?_, ?_⟩
    · show (UInt8.ofNat (48 + m / 10)).toNat ≠ 48; omega
    · intro i hi hg
      have : i = 1 ∨ i = 2 := by have : i < 3 := hi; omega
      rcases this with rfl | rfl
      · show 48 ≤ (UInt8.ofNat (48 + m / 10)).toNat ∧ (UInt8.ofNat (48 + m / 10)).toNat ≤ 57
        rw [e1]; omega
      · show 48 ≤ (UInt8.ofNat (48 + m % 10)).toNat ∧ (UInt8.ofNat (48 + m % 10)).toNat ≤ 57
        rw [e2]; omega
    · show (0 * 10 + ((UInt8.ofNat (48 + m / 10)).toNat - 48)) * 10 + ((UInt8.ofNat (48 + m % 10)).toNat - 48) = m
      omega
theorem atof64_num (n : Int) (w : World) (hn : n.natAbs ≤ 99) (hp : PF w) :
    Calls Tryz.prog 67 #[.string (numT n)] w fun e w' => e = .returned (.tuple #[.float .f64 (fw n), .int .i64 (numT n).size, .nilIface]) ∧ Fr w w' := by
  rcases Int.lt_trichotomy n 0 with h | h | h
  · have e : numT n = ⟨(45 :: decDigits n.natAbs).toArray⟩ := by unfold numT; rw [itoa_neg n h]
    have N := numeral_neg n.natAbs (by omega) (by omega)
    rw [← e] at N
    have h45 : (numT n)[0]'(by have := N.lo; omega) = 45 := by simp only [e]; rfl
    have hv := N.val
    refine (atof64_of (numT n) w (n.natAbs : Int) true (by omega) (by omega) hp (fun w => special_neg _ _ w N.lo N.hi (by rw [h45]; rfl) rfl (N.dig 1 N.lo (Nat.le_refl _)).1 (N.dig 1 N.lo (Nat.le_refl _)).2) (fun w => ?_)).mono ?_
    · refine (readFloat_neg (numT n) w N.lo N.hi (by rw [h45]; rfl) N.first N.dig).mono ?_
      rintro e' w' ⟨x, hx, rfl, hf⟩
      rw [hx.1, hv]
      exact ⟨rfl, hf⟩
    · rintro e' w' ⟨rfl, hf⟩
      refine ⟨?_, hf⟩
      simp only [if_true]
      rw [show -(n.natAbs : Int) = n by omega]
  · subst h
    have e : numT 0 = ⟨#[48]⟩ := by unfold numT; rw [itoa_pos 0 (by decide), show (0 : Int).natAbs = 0 from rfl, dec_one 0 (by decide)]; rfl
    rw [e, fw_zero]
    exact atof64_nought _ w hp (fun w => special_pos _ 48 w (by decide) rfl (by decide) (by decide)) (fun w => readFloat_nought _ w rfl rfl)
  · have e : numT n = ⟨(decDigits n.natAbs).toArray⟩ := by unfold numT; rw [itoa_pos n (by omega)]
    have N := numeral_pos n.natAbs (by omega) (by omega)
    rw [← e] at N
    have hv := N.val
    refine (atof64_of (numT n) w (n.natAbs : Int) false (by omega) (by omega) hp (fun w => special_pos _ _ w N.lo rfl (N.dig 0 N.lo (Nat.le_refl _)).1 (N.dig 0 N.lo (Nat.le_refl _)).2) (fun w => ?_)).mono ?_
    · refine (readFloat_pos (numT n) w N.lo N.hi N.first N.dig).mono ?_
      rintro e' w' ⟨x, hx, rfl, hf⟩
      rw [hx.1, hv]
      exact ⟨rfl, hf⟩
    · rintro e' w' ⟨rfl, hf⟩
      refine ⟨?_, hf⟩
      simp only [Bool.false_eq_true, if_false]
      rw [show (n.natAbs : Int) = n by omega]
theorem ParseFloat_num (n : Int) (w : World) (hn : n.natAbs ≤ 99) (hp : PF w) :
    Calls Tryz.prog 44 #[.string (numT n), .int .i64 64] w fun e w' => e = .returned (.tuple #[.float .f64 (fw n), .nilIface]) ∧ Fr w w' :=
  ParseFloat_of (numT n) w (fw n) hp (fun w hp => atof64_num n w hn hp)
end Go.Proofs.YtlhonpmpchkkfaaGreatDoor
