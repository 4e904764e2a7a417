import Derived.Lib.ItoaNum
import Derived.Test.YtlhonpmpchkkfaaGreatDoorF0
set_option linter.unusedSimpArgs false
set_option linter.unusedVariables false
/- Plain arithmetic of the shortest digits of a whole number below 2^20. -/
namespace Go.Proofs.YtlhonpmpchkkfaaGreatDoor.Fl

/-- What uscale yields where the table's low word is 0. -/
def usc (x hi s : Nat) : Nat :=
  if x * hi / 2 ^ 64 / 2 ^ s * 2 ^ s = x * hi / 2 ^ 64 then (x * hi / 2 ^ 64 / 2 ^ s) ||| (if 1 < x * hi % 2 ^ 64 then 1 else 0)
  else (x * hi / 2 ^ 64 / 2 ^ s) ||| 1

theorem or_one_le (q : Nat) : q ≤ q ||| 1 ∧ q ||| 1 ≤ q + 1 := by
  have h : q ||| 1 = q / 2 * 2 + 1 := by
    apply Nat.eq_of_testBit_eq
    intro i
    rw [Nat.testBit_or]
    cases i with
    | zero => simp [Nat.testBit_zero]
    | succ i => simp [Nat.testBit_succ]; rw [show (q / 2 * 2 + 1) / 2 = q / 2 by omega]
  rw [h]; omega

theorem usc_bounds (x hi s : Nat) : x * hi / 2 ^ (64 + s) ≤ usc x hi s ∧ usc x hi s ≤ x * hi / 2 ^ (64 + s) + 1 := by
  have e : x * hi / 2 ^ 64 / 2 ^ s = x * hi / 2 ^ (64 + s) := by rw [Nat.div_div_eq_div_mul, ← Nat.pow_add]
  unfold usc
  rw [e]
  have h := or_one_le (x * hi / 2 ^ (64 + s))
  split
  · split
    · exact h
    · simp
  · exact h

/-- The constants of a power of two's length L: p and lp, as Go reckons them. -/
def pOf (L : Nat) (pw : Bool) : Int := if pw then -((((L : Int) - 52) * 631305 - 261663) / 2097152) else -((((L : Int) - 52) * 78913) / 262144)
def lpOf (L : Nat) (pw : Bool) : Int := pOf L pw * 108853 / 32768
def sOf (L : Nat) (pw : Bool) : Int := -(((L : Int) - 63) + lpOf L pw + 3)
def hiOf (L : Nat) (pw : Bool) : Nat := 10 ^ (pOf L pw).toNat * 2 ^ (63 - (lpOf L pw).toNat)
def cMin (pw : Bool) : Nat := if pw then 512 else 1024

theorem consts : ∀ L : Fin 20, ∀ pw : Bool,
    10 ≤ pOf L pw ∧ pOf L pw ≤ 16 ∧ 0 ≤ sOf L pw ∧ sOf L pw < 64 ∧ 2 ^ 63 ≤ hiOf L pw ∧ hiOf L pw < 2 ^ 64 ∧
    2 ^ (63 - L.val) * hiOf L pw = 4 * 10 ^ (pOf L pw).toNat * 2 ^ (64 + (sOf L pw).toNat) ∧
    2 ^ (64 + (sOf L pw).toNat) < cMin pw * hiOf L pw ∧ 1024 * hiOf L pw < 35 * 2 ^ (64 + (sOf L pw).toNat) := by decide +kernel

theorem consts' (L : Nat) (hL : L < 20) (pw : Bool) :
    10 ≤ pOf L pw ∧ pOf L pw ≤ 16 ∧ 0 ≤ sOf L pw ∧ sOf L pw < 64 ∧ 2 ^ 63 ≤ hiOf L pw ∧ hiOf L pw < 2 ^ 64 ∧
    2 ^ (63 - L) * hiOf L pw = 4 * 10 ^ (pOf L pw).toNat * 2 ^ (64 + (sOf L pw).toNat) ∧
    2 ^ (64 + (sOf L pw).toNat) < cMin pw * hiOf L pw ∧ 1024 * hiOf L pw < 35 * 2 ^ (64 + (sOf L pw).toNat) := consts ⟨L, hL⟩ pw

theorem core_arith (N K B C ux un odd : Nat) (hK : 0 < K) (ho : odd ≤ 1)
    (bx : (4 * (N * 10) * K + B) / K ≤ ux ∧ ux ≤ (4 * (N * 10) * K + B) / K + 1) (bn : un ≤ (4 * (N * 10) * K - C) / K + 1)
    (c8 : K < C) (hCB : C ≤ B) (c9 : B < 35 * K) (hmn : C ≤ 4 * (N * 10) * K) : (ux - odd) / 4 / 10 = N ∧ (un + odd + 3) / 4 ≤ N * 10 := by
  have q1 : (4 * (N * 10) * K + B) / K = 4 * (N * 10) + B / K := by rw [Nat.add_comm, Nat.add_mul_div_right _ _ hK, Nat.add_comm]
  have q2 : B / K ≤ 34 := by
    have := Nat.div_lt_of_lt_mul (m := B) (n := K) (k := 35) (by rw [Nat.mul_comm]; exact c9)
    omega
  have q4 : 1 ≤ B / K := (Nat.one_le_div_iff hK).2 (by omega)
  have hN : 1 ≤ N := by
    rcases Nat.eq_zero_or_pos N with h | h
    · subst h; simp at hmn; omega
    · exact h
  have q3 : (4 * (N * 10) * K - C) / K + 2 ≤ 4 * (N * 10) := by
    have : (4 * (N * 10) * K - C) / K < 4 * (N * 10) - 1 := by
      rw [Nat.div_lt_iff_lt_mul hK, Nat.sub_mul]
      omega
    omega
  rw [q1] at bx
  constructor
  · omega
  · omega

theorem short_core (L : Nat) (hL : L < 20) (pw : Bool) (n : Nat) (odd : Nat) (ho : odd ≤ 1)
    (hi s p : Nat) (ehi : hi = hiOf L pw) (es : (s : Int) = sOf L pw) (ep : (p : Int) = pOf L pw)
    (hc : cMin pw ≤ n * 2 ^ (63 - L)) :
    (usc (n * 2 ^ (63 - L) + 1024) hi s - odd) / 4 / 10 = n * 10 ^ (p - 1) ∧
    (usc (n * 2 ^ (63 - L) - cMin pw) hi s + odd + 3) / 4 ≤ n * 10 ^ (p - 1) * 10 := by
  obtain ⟨c1, c2, c3, c4, c5, c6, c7, c8, c9⟩ := consts' L hL pw
  have es' : (sOf L pw).toNat = s := by omega
  have ep' : (pOf L pw).toNat = p := by omega
  rw [es'] at c7 c8 c9
  rw [ep'] at c7
  rw [← ehi] at c7 c8 c9
  clear c5 c6 ehi es es'
  have hp : 1 ≤ p := by omega
  clear c1 c2 c3 c4 ep ep'
  have hpp : 10 ^ p = 10 ^ (p - 1) * 10 := by rw [← Nat.pow_succ]; congr 1; omega
  have hK : 0 < 2 ^ (64 + s) := Nat.two_pow_pos _
  have bx := usc_bounds (n * 2 ^ (63 - L) + 1024) hi s
  have bn := usc_bounds (n * 2 ^ (63 - L) - cMin pw) hi s
  have ex : n * 2 ^ (63 - L) * hi = 4 * (n * 10 ^ p) * 2 ^ (64 + s) := by
    rw [Nat.mul_assoc, c7]
    generalize 2 ^ (64 + s) = K
    generalize 10 ^ p = T
    rw [Nat.mul_assoc 4 T K, Nat.mul_left_comm n 4, ← Nat.mul_assoc n T K, ← Nat.mul_assoc 4]
  rw [Nat.add_mul, ex] at bx
  rw [Nat.sub_mul, ex] at bn
  have hmn : cMin pw * hi ≤ 4 * (n * 10 ^ p) * 2 ^ (64 + s) := by rw [← ex]; exact Nat.mul_le_mul_right _ hc
  have hN' : n * 10 ^ p = n * 10 ^ (p - 1) * 10 := by rw [hpp, ← Nat.mul_assoc]
  rw [hN'] at bx bn hmn
  exact core_arith (n * 10 ^ (p - 1)) (2 ^ (64 + s)) (1024 * hi) (cMin pw * hi) _ _ odd hK ho bx bn.2 c8 (Nat.mul_le_mul_right _ (by cases pw <;> decide)) c9 hmn
end Go.Proofs.YtlhonpmpchkkfaaGreatDoor.Fl
/- Plain words on decimal numerals: two whole numbers of one numeral are one; the digits of n times a power of ten. -/
namespace Go.Proofs.YtlhonpmpchkkfaaGreatDoor.Fl
open Go.Lib
theorem nDigits_mul (n : Nat) (hn : 1 ≤ n) : ∀ k, nDigits (n * 10 ^ k) = nDigits n + k
  | 0 => by simp
  | k + 1 => by
    have hp : 1 ≤ 10 ^ k := Nat.one_le_pow _ _ (by decide)
    have : 1 ≤ n * 10 ^ k := Nat.mul_pos hn hp
    rw [Nat.pow_succ, ← Nat.mul_assoc, nDigits_big (by omega), Nat.mul_div_cancel _ (by decide), nDigits_mul n hn k]; rfl
theorem dg_low (n k j : Nat) (h : j < k) : dg (n * 10 ^ k) j = 48 := by
  unfold dg
  obtain ⟨i, rfl⟩ : ∃ i, k = j + 1 + i := ⟨k - (j + 1), by omega⟩
  have : n * 10 ^ (j + 1 + i) / 10 ^ j % 10 = 0 := by
    rw [show n * 10 ^ (j + 1 + i) = (n * 10 ^ i * 10) * 10 ^ j by rw [Nat.pow_add, Nat.pow_succ, Nat.mul_comm (10 ^ j * 10), ← Nat.mul_assoc n, Nat.mul_comm (10 ^ j), ← Nat.mul_assoc], Nat.mul_div_cancel _ (Nat.pow_pos (by decide)), Nat.mul_mod_left]
  rw [this]; rfl
theorem dg_high (n k j : Nat) : dg (n * 10 ^ k) (j + k) = dg n j := by
  unfold dg
  rw [Nat.pow_add, Nat.mul_div_mul_right _ _ (Nat.pow_pos (by decide))]
/-- What fmtEFG lays: the first z of d's digits, then zeros, K places: the numeral of n. -/
theorem laid_digits (n k z : Nat) (hn : 1 ≤ n) (hz : z ≤ nDigits n)
    (hZ : ∀ t, z ≤ t → t < nDigits n + k → dg (n * 10 ^ k) (nDigits n + k - 1 - t) = 48) :
    ((List.range z).map fun t => dg (n * 10 ^ k) (nDigits n + k - 1 - t)) ++ List.replicate (nDigits n - z) 48 = decDigits n := by
  have hp := nDigits_pos n
  rw [decDigits_eq]
  apply List.ext_getElem
  · simp; omega
  · intro t h1 h2
    simp at h1 h2
    have e : dg (n * 10 ^ k) (nDigits n + k - 1 - t) = dg n (nDigits n - 1 - t) := by
      rw [show nDigits n + k - 1 - t = (nDigits n - 1 - t) + k by omega, dg_high]
    rw [List.getElem_append]
    split
    · rw [List.getElem_map, List.getElem_map, List.getElem_range, List.getElem_range, e]
    · rename_i hlt
      simp at hlt
      rw [List.getElem_replicate, List.getElem_map, List.getElem_range, ← e]
      exact (hZ t (by omega) (by omega)).symm
end Go.Proofs.YtlhonpmpchkkfaaGreatDoor.Fl
/- The parts of a whole number's word, as the printing of floats takes them apart. -/
namespace Go.Proofs.YtlhonpmpchkkfaaGreatDoor.Fl
open Ieee
theorem sized (n : Nat) (h0 : 0 < n) (h : n < 2 ^ 53) : n.log2 < 53 ∧ 2 ^ 52 ≤ n * 2 ^ (52 - n.log2) ∧ n * 2 ^ (52 - n.log2) < 2 ^ 53 := by
  have hL : n.log2 < 53 := (Nat.log2_lt (by omega)).2 h
  refine ⟨hL, ?_, ?_⟩
  · have h1 := Nat.log2_self_le (n := n) (by omega)
    calc 2 ^ 52 = 2 ^ n.log2 * 2 ^ (52 - n.log2) := by rw [← Nat.pow_add, show n.log2 + (52 - n.log2) = 52 by omega]
      _ ≤ n * 2 ^ (52 - n.log2) := Nat.mul_le_mul_right _ h1
  · have h2 := Nat.lt_log2_self (n := n)
    calc n * 2 ^ (52 - n.log2) < 2 ^ (n.log2 + 1) * 2 ^ (52 - n.log2) := Nat.mul_lt_mul_of_pos_right h2 (Nat.two_pow_pos _)
      _ = 2 ^ 53 := by rw [← Nat.pow_add, show n.log2 + 1 + (52 - n.log2) = 53 by omega]
theorem fw_parts (n : Int) (h0 : n ≠ 0) (h : n.natAbs < 2 ^ 53) :
    fw n / 2 ^ 63 = (if n < 0 then 1 else 0) ∧ fw n / 2 ^ 52 % 2048 = n.natAbs.log2 + 1023 ∧ fw n % 2 ^ 52 + 2 ^ 52 = n.natAbs * 2 ^ (52 - n.natAbs.log2) ∧ fw n < 2 ^ 64 := by
  have hp : 0 < n.natAbs := by omega
  obtain ⟨hL, hlo, hhi⟩ := sized n.natAbs hp h
  have hsw : double.signWeight = 2 ^ 63 := by decide
  unfold fw wordOf Format.word
  rw [hsw, if_neg (show ¬ n.natAbs = 0 by omega)]
  generalize n.natAbs * 2 ^ (52 - n.natAbs.log2) = K at *
  generalize n.natAbs.log2 = L at *
  clear hp h h0 hsw
  by_cases hn : n < 0
  · simp only [hn, decide_true, if_true]
    omega
  · simp only [hn, decide_false, if_false, Bool.false_eq_true]
    omega
theorem fw_zero : fw 0 = 0 := by decide +kernel
/-- The mantissa pushed to the left end. -/
theorem left_end (n : Nat) (h0 : 0 < n) (h : n < 2 ^ 53) : n * 2 ^ (52 - n.log2) * 2 ^ 11 = n * 2 ^ (63 - n.log2) ∧ 2 ^ 63 ≤ n * 2 ^ (63 - n.log2) ∧ n * 2 ^ (63 - n.log2) < 2 ^ 64 := by
  obtain ⟨hL, hlo, hhi⟩ := sized n h0 h
  have e : n * 2 ^ (52 - n.log2) * 2 ^ 11 = n * 2 ^ (63 - n.log2) := by rw [Nat.mul_assoc, ← Nat.pow_add, show 52 - n.log2 + 11 = 63 - n.log2 by omega]
  rw [← e]
  exact ⟨rfl, by omega, by omega⟩
end Go.Proofs.YtlhonpmpchkkfaaGreatDoor.Fl
