import Derived.Test.YtlhonpmpchkkfaaGreatDoorGI
import Derived.WalkMore
set_option linter.unusedSimpArgs false
set_option linter.unusedVariables false
/- Reading a numeral of at most two digits back into a float. -/
namespace Go.Proofs.YtlhonpmpchkkfaaGreatDoor
open Go.RowKit
open Fl
open Ieee (double)
set_option maxRecDepth 100000 in
set_option maxHeartbeats 2000000 in
theorem prefix_no (s : ByteArray) (c : Nat) (w : World) (h0 : 0 < s.size) (h3 : s.size ≤ 3) (hc : s[0].toNat = c) (h48 : 48 ≤ c) (h57 : c ≤ 57) :
    Calls Tryz.prog 102 #[.string s, .string ⟨#[105, 110, 102, 105, 110, 105, 116, 121]⟩] w fun e w' => e = .returned (.int .i64 0) ∧ Fr w w' := by
  have hp : ((⟨#[105, 110, 102, 105, 110, 105, 116, 121]⟩ : ByteArray)[0]).toNat = 105 := rfl
  have hm : (0 : Int) < min 8 (s.size : Int) := by omega
  have h65 : ¬ (65 : Int) ≤ (c : Int) := by omega
  have hne : ((c : Int) != ((105 : Nat) : Int)) = true := by simp; omega
  have hne2 : ((c : Int) != 105) = true := by simp; omega
  go_enter Tryz.func102, Tryz.ntmps102
  go_wp2
  go_loopw [6] (fun i W => i = .int .i64 0 ∧ W = w) (fun _ _ => 1)
  case atStart => exact ⟨rfl, rfl⟩
  case round =>
    obtain ⟨rfl, rfl⟩ := hrel
    go_wp2
    go_ret
    exact ⟨rfl, Fr.refl _⟩
set_option maxRecDepth 100000 in
set_option maxHeartbeats 2000000 in
theorem special_pos (s : ByteArray) (c : Nat) (w : World) (h0 : 0 < s.size) (hc : s[0].toNat = c) (h48 : 48 ≤ c) (h57 : c ≤ 57) :
    Calls Tryz.prog 73 #[.string s] w fun e w' => e = .returned (.tuple #[.float .f64 0, .int .i64 0, .bool false]) ∧ Fr w w' := by
  have n1 : ((c : Int) == 43) = false := by simp; omega
  have n2 : ((c : Int) == 45) = false := by simp; omega
  have n3 : ((c : Int) == 105) = false := by simp; omega
  have n4 : ((c : Int) == 73) = false := by simp; omega
  have n5 : ((c : Int) == 110) = false := by simp; omega
  have n6 : ((c : Int) == 78) = false := by simp; omega
  have n7 : ((s.size : Int) == 0) = false := beq_eq_false_iff_ne.2 (by omega)
  go_enter Tryz.func73, Tryz.ntmps73
  go_wp2
  exact bodyPost_ret (v := .tuple #[.float .f64 0, .int .i64 0, .bool false]) (by simp [results, Tryz.results73, go_sem, sv, mt, *]) rfl ⟨rfl, Fr.refl _⟩
set_option maxRecDepth 100000 in
set_option maxHeartbeats 2000000 in
theorem special_neg (s : ByteArray) (c : Nat) (w : World) (h0 : 1 < s.size) (h3 : s.size ≤ 3) (h45 : s[0].toNat = 45) (hc : s[1].toNat = c) (h48 : 48 ≤ c) (h57 : c ≤ 57) :
    Calls Tryz.prog 73 #[.string s] w fun e w' => e = .returned (.tuple #[.float .f64 0, .int .i64 0, .bool false]) ∧ Fr w w' := by
  have n7 : ((s.size : Int) == 0) = false := beq_eq_false_iff_ne.2 (by omega)
  go_enter Tryz.func73, Tryz.ntmps73
  go_wp2_with fail
  refine (prefix_no (s.extract 1 s.size) c _ (by simp; omega) (by simp; omega) (by simp only [ByteArray.getElem_extract]; exact hc) h48 h57).mono ?_
  rintro e w1 ⟨rfl, hf1⟩
  go_wp2
  exact bodyPost_ret (v := .tuple #[.float .f64 0, .int .i64 0, .bool false]) (by simp [results, Tryz.results73, go_sem, sv, mt, *]) rfl ⟨rfl, hf1⟩
/-- The value of the first k digits behind the sign. -/
def rdV (s : ByteArray) (g : Nat) : Nat → Nat
  | 0 => 0
  | k + 1 => rdV s g k * 10 + ((s[g + k]?.getD 48).toNat - 48)
def XV (s : ByteArray) (g q : Nat) (x : Int) : Prop := x = (rdV s g q : Int) ∧ (0 < q → 1 ≤ x) ∧ x + 1 ≤ 10 ^ q
theorem XV.zero (s : ByteArray) (g : Nat) : XV s g 0 0 := ⟨rfl, fun h => absurd h (by omega), by decide⟩
theorem XV.bound {s : ByteArray} {g q : Nat} {x : Int} (h : XV s g q x) (hq : q ≤ 2) : 0 ≤ x ∧ x ≤ 99 := by
  obtain ⟨h1, h2, h3⟩ := h
  have hc : q = 0 ∨ q = 1 ∨ q = 2 := by omega
  rcases hc with rfl | rfl | rfl <;> simp at h3 <;> omega
theorem XV.next {s : ByteArray} {g q j c : Nat} {x : Int} (h : XV s g q x) (h0 : 0 ≤ x) (hj : j = g + q) (hs : j < s.size) (hc : s[j].toNat = c) (h48 : 48 ≤ c) (h57 : c ≤ 57) (hf : q = 0 → c ≠ 48) : XV s g (q + 1) (x * 10 + ((c : Int) - 48)) := by
  subst hj
  obtain ⟨h1, h2, h3⟩ := h
  have h4 : s[g + q]?.getD 48 = s[g + q] := by rw [getElem?_pos s (g + q) hs]; rfl
  refine ⟨?_, fun _ => ?_, ?_⟩
  · simp only [rdV]
    rw [h4, hc, h1]
    omega
  · rcases Nat.eq_zero_or_pos q with hq | hq
    · have := hf hq; omega
    · have := h2 hq; omega
  · rw [Int.pow_succ]; omega
set_option maxRecDepth 100000 in
set_option maxHeartbeats 4000000 in
theorem readFloat_pos (s : ByteArray) (w : World) (h1 : 0 < s.size) (h2 : s.size ≤ 2) (hz : s[0].toNat ≠ 48) (hd : ∀ i (h : i < s.size), 0 ≤ i → 48 ≤ s[i].toNat ∧ s[i].toNat ≤ 57) :
    Calls Tryz.prog 74 #[.string s] w fun e w' => ∃ x, XV s 0 (s.size - 0) x ∧ e = .returned (.tuple #[.int .u64 x, .int .i64 0, .bool false, .bool false, .bool false, .int .i64 s.size, .bool true]) ∧ Fr w w' := by
  have hne : ¬ s = ByteArray.empty := by rintro rfl; simp at h1
  have hsz : (s.size : Int) ≤ 2 := by omega
  have hsz0 : (0 : Int) < s.size := by omega
  have HD := Lib.hid hd; clear hd
  have HZ := Lib.hid hz; clear hz
  have h48 := HD.out 0 (by omega) (by omega)
  obtain ⟨c, hc⟩ : ∃ c, s[0].toNat = c := ⟨_, rfl⟩
  rw [hc] at h48
  have n1 : ((c : Int) == 43) = false := by simp; omega
  have n2 : ((c : Int) == 45) = false := by simp; omega
  go_enter Tryz.func74, Tryz.ntmps74
  go_wp2
  go_step3
  go_wp2
  go_step3
  go_wp2
  go_loopw [2, 5, 7, 9, 13, 14, 15, 16, 17] (fun m tr i us dt sd nd nm dp W => ∃ (q j : Nat) (x : Int) (b : Bool), j ≤ 0 + q ∧ 0 + q ≤ j ∧ j ≤ s.size ∧ i = .int .i64 j ∧ m = .int .u64 x ∧ sd = .bool b ∧ (0 < q → b = true) ∧ nd = .int .i64 q ∧ nm = .int .i64 q ∧ dp = .int .i64 0 ∧ tr = .bool false ∧ us = .bool false ∧ dt = .bool false ∧ XV s 0 q x ∧ W = w) (fun _ _ i _ _ _ _ _ _ _ => s.size - (intOf i).toNat)
  case atStart => exact ⟨0, 0, 0, false, by omega, by omega, by omega, rfl, rfl, rfl, fun h => absurd h (by omega), rfl, rfl, rfl, rfl, rfl, rfl, XV.zero _ _, rfl⟩
  case round =>
    obtain ⟨q, j, x, b, hq1, hq2, hj, rfl, rfl, rfl, hb, rfl, rfl, rfl, rfl, rfl, rfl, hX, rfl⟩ := hrel
    obtain ⟨hx0, hx9⟩ := hX.bound (by omega)
    by_cases hjs : j < s.size
    · have hx1 : x + 1 ≤ 10 := by
        have h3 := hX.2.2
        have hq01 : q = 0 ∨ q = 1 := by omega
        rcases hq01 with e | e <;> rw [e] at h3 <;> simp at h3 <;> omega
      obtain ⟨c, hc⟩ : ∃ c, s[j].toNat = c := ⟨_, rfl⟩
      have hcd := HD.out j hjs (by omega)
      rw [hc] at hcd
      obtain ⟨c48, c57⟩ := hcd
      have n95 : ((c : Int) == 95) = false := by simp; omega
      have n46 : ((c : Int) == 46) = false := by simp; omega
      have i48 : (48 : Int) ≤ (c : Int) := by omega
      have i57 : (c : Int) ≤ 57 := by omega
      have hfz : q = 0 → c ≠ 48 := fun e => by
        have hjg : j = 0 := by omega
        subst hjg
        have := HZ.out
        omega
      have HN := Lib.hid (hX.next (c := c) hx0 (by omega) hjs hc c48 c57 hfz)
      have HF := Lib.hid hfz; clear hfz
      clear hb hX
      by_cases hq0 : q = 0
      · have n48 : ((c : Int) == 48) = false := by have := HF.out hq0; simp; omega
        subst hq0
        go_wp2
        go_roundw
        case rel => exact ⟨1, j + 1, x * 10 + ((c : Int) - 48), true, by omega, by omega, by omega, by go_num, rfl, rfl, fun _ => rfl, by go_num, by go_num, rfl, rfl, rfl, rfl, HN.out, trivial⟩
        case measure => simp [intOf]; omega
      · have q0 : ((q : Int) == 0) = false := by simp; omega
        have q1 : (1 : Int) ≤ (q : Int) := by omega
        by_cases c0 : c = 48
        · have n48 : ((c : Int) == 48) = true := by simp; omega
          clear c0
          go_wp2
          go_roundw
          case rel => exact ⟨q + 1, j + 1, x * 10 + ((c : Int) - 48), true, by omega, by omega, by omega, by go_num, rfl, rfl, fun _ => rfl, by go_num, by go_num, rfl, rfl, rfl, rfl, HN.out, trivial⟩
          case measure => simp [intOf]; omega
        · have n48 : ((c : Int) == 48) = false := by simp; omega
          go_wp2
          go_roundw
          case rel => exact ⟨q + 1, j + 1, x * 10 + ((c : Int) - 48), true, by omega, by omega, by omega, by go_num, rfl, rfl, fun _ => rfl, by go_num, by go_num, rfl, rfl, rfl, rfl, HN.out, trivial⟩
          case measure => simp [intOf]; omega
    · have hq : 0 < q := by omega
      have hbt := hb hq
      subst hbt
      have hx1 := hX.2.1 hq
      have x0 : (x == 0) = false := by simp; omega
      have x1 : (x != 0) = true := by simp; omega
      have hqe : s.size - 0 = q := by omega
      have HX := Lib.hid (show XV s 0 (s.size - 0) x by rw [hqe]; exact hX)
      obtain rfl : j = s.size := by omega
      clear hqe hb hX
      go_wp2
      rw [Exit.noGoto_ret]
      exact bodyPost_ret (v := .tuple #[.int .u64 x, .int .i64 0, .bool false, .bool false, .bool false, .int .i64 s.size, .bool true]) (by simp [results, Tryz.results74, go_sem, sv, mt, *]) rfl ⟨x, HX.out, rfl, Fr.refl _⟩
set_option maxRecDepth 100000 in
set_option maxHeartbeats 4000000 in
theorem readFloat_neg (s : ByteArray) (w : World) (h1 : 1 < s.size) (h2 : s.size ≤ 3) (h45 : s[0].toNat = 45) (hz : s[1].toNat ≠ 48) (hd : ∀ i (h : i < s.size), 1 ≤ i → 48 ≤ s[i].toNat ∧ s[i].toNat ≤ 57) :
    Calls Tryz.prog 74 #[.string s] w fun e w' => ∃ x, XV s 1 (s.size - 1) x ∧ e = .returned (.tuple #[.int .u64 x, .int .i64 0, .bool true, .bool false, .bool false, .int .i64 s.size, .bool true]) ∧ Fr w w' := by
  have hne : ¬ s = ByteArray.empty := by rintro rfl; simp at h1
  have hsz : (s.size : Int) ≤ 3 := by omega
  have hsz0 : (1 : Int) < s.size := by omega
  have HD := Lib.hid hd; clear hd
  have HZ := Lib.hid hz; clear hz
  go_enter Tryz.func74, Tryz.ntmps74
  go_wp2
  go_step3
  go_wp2
  go_step3
  go_wp2
  go_loopw [2, 5, 7, 9, 13, 14, 15, 16, 17] (fun m tr i us dt sd nd nm dp W => ∃ (q j : Nat) (x : Int) (b : Bool), j ≤ 1 + q ∧ 1 + q ≤ j ∧ j ≤ s.size ∧ i = .int .i64 j ∧ m = .int .u64 x ∧ sd = .bool b ∧ (0 < q → b = true) ∧ nd = .int .i64 q ∧ nm = .int .i64 q ∧ dp = .int .i64 0 ∧ tr = .bool false ∧ us = .bool false ∧ dt = .bool false ∧ XV s 1 q x ∧ W = w) (fun _ _ i _ _ _ _ _ _ _ => s.size - (intOf i).toNat)
  case atStart => exact ⟨0, 1, 0, false, by omega, by omega, by omega, rfl, rfl, rfl, fun h => absurd h (by omega), rfl, rfl, rfl, rfl, rfl, rfl, XV.zero _ _, rfl⟩
  case round =>
    obtain ⟨q, j, x, b, hq1, hq2, hj, rfl, rfl, rfl, hb, rfl, rfl, rfl, rfl, rfl, rfl, hX, rfl⟩ := hrel
    obtain ⟨hx0, hx9⟩ := hX.bound (by omega)
    by_cases hjs : j < s.size
    · have hx1 : x + 1 ≤ 10 := by
        have h3 := hX.2.2
        have hq01 : q = 0 ∨ q = 1 := by omega
        rcases hq01 with e | e <;> rw [e] at h3 <;> simp at h3 <;> omega
      obtain ⟨c, hc⟩ : ∃ c, s[j].toNat = c := ⟨_, rfl⟩
      have hcd := HD.out j hjs (by omega)
      rw [hc] at hcd
      obtain ⟨c48, c57⟩ := hcd
      have n95 : ((c : Int) == 95) = false := by simp; omega
      have n46 : ((c : Int) == 46) = false := by simp; omega
      have i48 : (48 : Int) ≤ (c : Int) := by omega
      have i57 : (c : Int) ≤ 57 := by omega
      have hfz : q = 0 → c ≠ 48 := fun e => by
        have hjg : j = 1 := by omega
        subst hjg
        have := HZ.out
        omega
      have HN := Lib.hid (hX.next (c := c) hx0 (by omega) hjs hc c48 c57 hfz)
      have HF := Lib.hid hfz; clear hfz
      clear hb hX
      by_cases hq0 : q = 0
      · have n48 : ((c : Int) == 48) = false := by have := HF.out hq0; simp; omega
        subst hq0
        go_wp2
        go_roundw
        case rel => exact ⟨1, j + 1, x * 10 + ((c : Int) - 48), true, by omega, by omega, by omega, by go_num, rfl, rfl, fun _ => rfl, by go_num, by go_num, rfl, rfl, rfl, rfl, HN.out, trivial⟩
        case measure => simp [intOf]; omega
      · have q0 : ((q : Int) == 0) = false := by simp; omega
        have q1 : (1 : Int) ≤ (q : Int) := by omega
        by_cases c0 : c = 48
        · have n48 : ((c : Int) == 48) = true := by simp; omega
          clear c0
          go_wp2
          go_roundw
          case rel => exact ⟨q + 1, j + 1, x * 10 + ((c : Int) - 48), true, by omega, by omega, by omega, by go_num, rfl, rfl, fun _ => rfl, by go_num, by go_num, rfl, rfl, rfl, rfl, HN.out, trivial⟩
          case measure => simp [intOf]; omega
        · have n48 : ((c : Int) == 48) = false := by simp; omega
          go_wp2
          go_roundw
          case rel => exact ⟨q + 1, j + 1, x * 10 + ((c : Int) - 48), true, by omega, by omega, by omega, by go_num, rfl, rfl, fun _ => rfl, by go_num, by go_num, rfl, rfl, rfl, rfl, HN.out, trivial⟩
          case measure => simp [intOf]; omega
    · have hq : 0 < q := by omega
      have hbt := hb hq
      subst hbt
      have hx1 := hX.2.1 hq
      have x0 : (x == 0) = false := by simp; omega
      have x1 : (x != 0) = true := by simp; omega
      have hqe : s.size - 1 = q := by omega
      have HX := Lib.hid (show XV s 1 (s.size - 1) x by rw [hqe]; exact hX)
      obtain rfl : j = s.size := by omega
      clear hqe hb hX
      go_wp2
      rw [Exit.noGoto_ret]
      exact bodyPost_ret (v := .tuple #[.int .u64 x, .int .i64 0, .bool true, .bool false, .bool false, .int .i64 s.size, .bool true]) (by simp [results, Tryz.results74, go_sem, sv, mt, *]) rfl ⟨x, HX.out, rfl, Fr.refl _⟩
end Go.Proofs.YtlhonpmpchkkfaaGreatDoor
