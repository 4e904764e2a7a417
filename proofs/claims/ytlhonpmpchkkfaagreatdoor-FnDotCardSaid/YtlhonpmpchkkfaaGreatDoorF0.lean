import Derived.Laws.FloatArith
set_option linter.unusedSimpArgs false
set_option linter.unusedVariables false
namespace Go.Proofs.YtlhonpmpchkkfaaGreatDoor.Fl
open Ieee

theorem log2_mul_pow (n k : Nat) (h : 0 < n) : (n * 2 ^ k).log2 = n.log2 + k := by
  have h1 := Nat.log2_self_le (n := n) (by omega)
  have h2 := Nat.lt_log2_self (n := n)
  rw [Nat.log2_eq_iff (by have := Nat.two_pow_pos k; exact Nat.ne_of_gt (Nat.mul_pos h this))]
  constructor
  · rw [Nat.pow_add]; exact Nat.mul_le_mul_right _ h1
  · rw [show n.log2 + k + 1 = (n.log2 + 1) + k by omega, Nat.pow_add]
    exact Nat.mul_lt_mul_of_pos_right h2 (Nat.two_pow_pos k)

theorem cut_exact (neg : Bool) (n d : Nat) (h : 0 < n) : Toward.even.cut neg (n * 2 ^ d) d = n := by
  unfold Toward.cut
  have hl : min d ((n * 2 ^ d).log2 + 2) = d := by rw [log2_mul_pow n d h]; omega
  have hp := Nat.two_pow_pos d
  simp only [hl, Nat.shiftLeft_eq, Nat.one_mul]
  rw [Nat.mul_div_cancel _ hp, Nat.mul_mod_left]

  have e2 : ((2 ^ d == 2 * 0) : Bool) = false := by simp
  simp [e2]

/-- The word of a whole number N * 2^k at the place -k. -/
def wordOf (neg : Bool) (n : Nat) : Nat :=
  double.word neg (if n = 0 then 0 else (n.log2 + 1022) * 2 ^ 52 + n * 2 ^ (52 - n.log2))

theorem nearest_int (neg : Bool) (n k : Nat) (hn : n < 2 ^ 53) : double.nearest neg (n * 2 ^ k) (-(k : Int)) = wordOf neg n := by
  unfold Format.nearest wordOf
  rcases Nat.eq_zero_or_pos n with h0 | h0
  · simp [h0]
  have hpos : n * 2 ^ k ≠ 0 := Nat.ne_of_gt (Nat.mul_pos h0 (Nat.two_pow_pos k))
  rw [if_neg hpos, if_neg (by omega)]
  have hL : n.log2 < 53 := (Nat.log2_lt (by omega)).2 hn
  have hlast : max (-(k : Int) + ((n * 2 ^ k).log2 : Int) - (double.fractionBits : Int)) double.leastPlace = (n.log2 : Int) - 52 := by
    rw [log2_mul_pow n k h0]
    have e : double.leastPlace = -1074 := by decide
    have e2 : (double.fractionBits : Int) = 52 := rfl
    rw [e, e2]; omega
  simp only [hlast]
  have e : double.leastPlace = -1074 := by decide
  have hb : double.binade = 2 ^ 52 := by decide
  rw [e, hb]
  have hkept : Toward.even.cut neg ((n * 2 ^ k) <<< (-(k : Int) - ((n.log2 : Int) - 52)).toNat) (((n.log2 : Int) - 52) - (-(k : Int))).toNat = n * 2 ^ (52 - n.log2) := by
    by_cases hk : k ≤ 52 - n.log2
    · have h1 : (-(k : Int) - ((n.log2 : Int) - 52)).toNat = 52 - n.log2 - k := by omega
      have h2 : (((n.log2 : Int) - 52) - (-(k : Int))).toNat = 0 := by omega
      rw [h1, h2, Nat.shiftLeft_eq, Nat.mul_assoc, ← Nat.pow_add, show k + (52 - n.log2 - k) = 52 - n.log2 by omega]
      have := cut_exact neg (n * 2 ^ (52 - n.log2)) 0 (Nat.mul_pos h0 (Nat.two_pow_pos _))
      simpa using this
    · have h1 : (-(k : Int) - ((n.log2 : Int) - 52)).toNat = 0 := by omega
      have h2 : (((n.log2 : Int) - 52) - (-(k : Int))).toNat = k - (52 - n.log2) := by omega
      rw [h1, h2, Nat.shiftLeft_zero]
      have := cut_exact neg (n * 2 ^ (52 - n.log2)) (k - (52 - n.log2)) (Nat.mul_pos h0 (Nat.two_pow_pos _))
      rw [Nat.mul_assoc, ← Nat.pow_add, show 52 - n.log2 + (k - (52 - n.log2)) = k by omega] at this
      exact this
  rw [hkept]
  have h3 : ((n.log2 : Int) - 52 - -1074).toNat = n.log2 + 1022 := by omega
  rw [h3]
  have hk53 : n * 2 ^ (52 - n.log2) < 2 ^ 53 := by
    have h2 := Nat.lt_log2_self (n := n)
    calc n * 2 ^ (52 - n.log2) < 2 ^ (n.log2 + 1) * 2 ^ (52 - n.log2) := Nat.mul_lt_mul_of_pos_right h2 (Nat.two_pow_pos _)
      _ = 2 ^ 53 := by rw [← Nat.pow_add, show n.log2 + 1 + (52 - n.log2) = 53 by omega]
  have hinf : double.infRung = 2047 * 2 ^ 52 := by decide
  have hle : (n.log2 + 1022) * 2 ^ 52 + n * 2 ^ (52 - n.log2) ≤ double.infRung := by
    rw [hinf]
    generalize n * 2 ^ (52 - n.log2) = K at hk53
    generalize n.log2 = L at hL
    omega
  rw [Nat.min_eq_left hle]

theorem word_parts (neg : Bool) (r : Nat) (h : r < 2 ^ 63) : (double.word neg r / 2 ^ 63 % 2 == 1) = neg ∧ double.word neg r % 2 ^ 63 = r := by
  have hsw : double.signWeight = 2 ^ 63 := by decide
  unfold Format.word
  rw [hsw]
  cases neg
  · simp only [Bool.false_eq_true, if_false]
    constructor
    · have : r / 2 ^ 63 = 0 := by omega
      rw [this]; rfl
    · omega
  · simp only [if_true]
    constructor
    · have : (2 ^ 63 + r) / 2 ^ 63 = 1 := by omega
      rw [this]; rfl
    · omega

theorem read_wordOf (neg : Bool) (n : Nat) (hn : n < 2 ^ 53) : double.read (wordOf neg n) = if n = 0 then .number neg 0 (-1074) else .number neg (n * 2 ^ (52 - n.log2)) ((n.log2 : Int) - 52) := by
  have hsw : double.signWeight = 2 ^ 63 := by decide
  have hb : double.binade = 2 ^ 52 := by decide
  have hinf : double.infRung = 2047 * 2 ^ 52 := by decide
  have e : double.leastPlace = -1074 := by decide
  unfold Format.read wordOf
  rw [hsw, hb, hinf, e]
  rcases Nat.eq_zero_or_pos n with h0 | h0
  · obtain ⟨h1, h2⟩ := word_parts neg 0 (by omega)
    rw [if_pos h0, if_pos h0]
    simp only [h1, h2]
    rw [if_pos (by omega)]
  · have hn0 : ¬ n = 0 := by omega
    simp only [if_neg hn0]
    have hL : n.log2 < 53 := (Nat.log2_lt (by omega)).2 hn
    have hlo : 2 ^ 52 ≤ n * 2 ^ (52 - n.log2) := by
      have h1 := Nat.log2_self_le (n := n) (by omega)
      calc 2 ^ 52 = 2 ^ n.log2 * 2 ^ (52 - n.log2) := by rw [← Nat.pow_add, show n.log2 + (52 - n.log2) = 52 by omega]
        _ ≤ n * 2 ^ (52 - n.log2) := Nat.mul_le_mul_right _ h1
    have hhi : n * 2 ^ (52 - n.log2) < 2 ^ 53 := by
      have h2 := Nat.lt_log2_self (n := n)
      calc n * 2 ^ (52 - n.log2) < 2 ^ (n.log2 + 1) * 2 ^ (52 - n.log2) := Nat.mul_lt_mul_of_pos_right h2 (Nat.two_pow_pos _)
        _ = 2 ^ 53 := by rw [← Nat.pow_add, show n.log2 + 1 + (52 - n.log2) = 53 by omega]
    generalize n * 2 ^ (52 - n.log2) = K at hlo hhi ⊢
    generalize n.log2 = L at hL ⊢
    obtain ⟨h1, h2⟩ := word_parts neg ((L + 1022) * 2 ^ 52 + K) (by omega)
    simp only [h1, h2]
    rw [if_neg (by omega), if_pos (by omega)]
    have h1 : 2 ^ 52 + ((L + 1022) * 2 ^ 52 + K) % 2 ^ 52 = K := by omega
    have h2 : (((L + 1022) * 2 ^ 52 + K) / 2 ^ 52 - 1 : Nat) = L + 1022 := by omega
    rw [h1, h2]
    have h3 : (-1074 + ((L + 1022 : Nat) : Int)) = (L : Int) - 52 := by omega
    rw [h3]

/-- The word of a whole number. -/
def fw (n : Int) : Nat := wordOf (n < 0) n.natAbs

theorem floatOfInt_fw (n : Int) (h : n.natAbs < 2 ^ 53) : floatOfInt .f64 n = fw n := by
  have := nearest_int (n < 0) n.natAbs 0 h
  simpa [floatOfInt, FloatKind.nearest, FloatKind.encode, FloatKind.format, Format.write, fw] using this

/-- x is a word of n: its own, or of 0 the negative one. -/
def FI (x : Nat) (n : Int) : Prop := n.natAbs < 2 ^ 53 ∧ ∃ neg : Bool, x = wordOf neg n.natAbs ∧ (n ≠ 0 → neg = decide (n < 0))

theorem FI.own {n : Int} (h : n.natAbs < 2 ^ 53) : FI (fw n) n := ⟨h, _, rfl, fun _ => rfl⟩

/-- What a word of n reads as. -/
theorem FI.read {x : Nat} {n : Int} (h : FI x n) : ∃ (neg : Bool) (k : Nat), double.read x = .number neg (n.natAbs * 2 ^ k) (-(k : Int)) ∧ (n ≠ 0 → neg = decide (n < 0)) ∧ x = wordOf neg n.natAbs := by
  obtain ⟨hn, neg, rfl, hs⟩ := h
  rcases Nat.eq_zero_or_pos n.natAbs with h0 | h0
  · obtain ⟨K, hK⟩ : ∃ K : Nat, (-1074 : Int) = -(K : Int) := ⟨1074, by decide⟩
    refine ⟨neg, K, ?_, hs, rfl⟩
    rw [read_wordOf neg _ hn, if_pos h0, h0, Nat.zero_mul, hK]
  · refine ⟨neg, 52 - n.natAbs.log2, ?_, hs, rfl⟩
    have hL : n.natAbs.log2 < 53 := (Nat.log2_lt (by omega)).2 hn
    rw [read_wordOf neg _ hn, if_neg (by omega)]
    congr 1
    omega

theorem signed_of {n : Int} {neg : Bool} (hs : n ≠ 0 → neg = decide (n < 0)) (k m : Nat) : signed neg (n.natAbs * 2 ^ k) m = n * 2 ^ (k + m) := by
  unfold signed
  rw [Nat.shiftLeft_eq, Nat.mul_assoc, ← Nat.pow_add]
  generalize k + m = e
  by_cases h0 : n = 0
  · subst h0; simp
  · rw [hs h0]
    by_cases hneg : n < 0
    · rw [if_pos (by simpa using hneg)]
      have : (n.natAbs : Int) = -n := by omega
      rw [Int.natCast_mul, this, Int.natCast_pow, Int.neg_mul, Int.neg_neg]; rfl
    · rw [if_neg (by simpa using hneg)]
      have : (n.natAbs : Int) = n := by omega
      rw [Int.natCast_mul, this, Int.natCast_pow]; rfl

theorem FI.add {x y : Nat} {a b : Int} (hx : FI x a) (hy : FI y b) (hab : (a + b).natAbs < 2 ^ 53) : ∃ z, double.add x y = some z ∧ FI z (a + b) := by
  obtain ⟨s, i, rx, hs, _⟩ := hx.read
  obtain ⟨t, j, ry, ht, _⟩ := hy.read
  unfold Format.add
  rw [rx, ry]
  simp only [Datum.sum, Option.map_some, Format.write]
  have hbase : min (-(i : Int)) (-(j : Int)) = -((max i j : Nat) : Int) := by omega
  rw [hbase]
  have h1 : (-(i : Int) - -((max i j : Nat) : Int)).toNat = max i j - i := by omega
  have h2 : (-(j : Int) - -((max i j : Nat) : Int)).toNat = max i j - j := by omega
  rw [h1, h2, signed_of hs, signed_of ht, show i + (max i j - i) = max i j by omega, show j + (max i j - j) = max i j by omega, ← Int.add_mul]
  generalize max i j = k
  have hp : (0 : Int) < 2 ^ k := by have := Nat.two_pow_pos k; exact_mod_cast this
  have habs : ((a + b) * 2 ^ k).natAbs = (a + b).natAbs * 2 ^ k := by rw [Int.natAbs_mul, Int.natAbs_pow]; rfl
  rw [habs]
  refine ⟨_, rfl, hab, _, nearest_int _ _ k hab, fun hne => ?_⟩
  have hne' : ¬ (a + b) * 2 ^ k = 0 := fun h => by
    rcases Int.mul_eq_zero.1 h with h | h
    · exact hne h
    · omega
  rw [if_neg hne']
  by_cases hl : a + b < 0
  · have := Int.mul_neg_of_neg_of_pos hl hp
    simp [hl, this]
  · have : 0 ≤ (a + b) * 2 ^ k := Int.mul_nonneg (by omega) (by omega)
    simp [hl, this]

theorem FI.mul {x y : Nat} {a b : Int} (hx : FI x a) (hy : FI y b) (hab : (a * b).natAbs < 2 ^ 53) : ∃ z, double.mul x y = some z ∧ FI z (a * b) := by
  obtain ⟨s, i, rx, hs, _⟩ := hx.read
  obtain ⟨t, j, ry, ht, _⟩ := hy.read
  unfold Format.mul
  rw [rx, ry]
  simp only [Datum.product, Option.map_some, Format.write]
  have h1 : a.natAbs * 2 ^ i * (b.natAbs * 2 ^ j) = (a * b).natAbs * 2 ^ (i + j) := by
    rw [Int.natAbs_mul, Nat.pow_add]; ac_rfl
  have h2 : -(i : Int) + -(j : Int) = -((i + j : Nat) : Int) := by omega
  rw [h1, h2]
  refine ⟨_, rfl, hab, _, nearest_int _ _ (i + j) hab, fun hne => ?_⟩
  have ha : a ≠ 0 := fun h => hne (by rw [h]; simp)
  have hb : b ≠ 0 := fun h => hne (by rw [h]; simp)
  rw [hs ha, ht hb]
  rcases Int.lt_or_gt_of_ne ha with h | h <;> rcases Int.lt_or_gt_of_ne hb with h' | h'
  · have := Int.mul_pos_of_neg_of_neg h h'
    have e : ¬ a * b < 0 := by omega
    simp [h, h', e]
  · have := Int.mul_neg_of_neg_of_pos h h'
    have e : ¬ b < 0 := by omega
    simp [h, e, this]
  · have := Int.mul_neg_of_pos_of_neg h h'
    have e : ¬ a < 0 := by omega
    simp [h', e, this]
  · have := Int.mul_pos h h'
    have e : ¬ a < 0 := by omega
    have e' : ¬ b < 0 := by omega
    have e3 : ¬ a * b < 0 := by omega
    simp [e, e', e3]

/-- Two words of two numbers stand to each other as the numbers. -/
theorem FI.order {x y : Nat} {a b : Int} (hx : FI x a) (hy : FI y b) : double.order x y = some (compare a b) := by
  obtain ⟨s, i, rx, hs, _⟩ := hx.read
  obtain ⟨t, j, ry, ht, _⟩ := hy.read
  unfold Format.order
  rw [rx, ry]
  simp only [Datum.order]
  have hbase : min (-(i : Int)) (-(j : Int)) = -((max i j : Nat) : Int) := by omega
  rw [hbase]
  have h1 : (-(i : Int) - -((max i j : Nat) : Int)).toNat = max i j - i := by omega
  have h2 : (-(j : Int) - -((max i j : Nat) : Int)).toNat = max i j - j := by omega
  rw [h1, h2, signed_of hs, signed_of ht, show i + (max i j - i) = max i j by omega, show j + (max i j - j) = max i j by omega]
  generalize max i j = k
  have hp : (0 : Int) < 2 ^ k := by have := Nat.two_pow_pos k; exact_mod_cast this
  congr 1
  have hlt : a * 2 ^ k < b * 2 ^ k ↔ a < b := ⟨fun h => Int.lt_of_mul_lt_mul_right h (by omega), fun h => Int.mul_lt_mul_of_pos_right h hp⟩
  have heq : a * 2 ^ k = b * 2 ^ k ↔ a = b := ⟨fun h => Int.eq_of_mul_eq_mul_right (by omega) h, fun h => by rw [h]⟩
  show compareOfLessAndEq _ _ = compareOfLessAndEq _ _
  simp only [compareOfLessAndEq, hlt, heq]

/-- n / 1. -/
theorem FI.div_one {n : Int} (h : n.natAbs < 2 ^ 53) : double.div (fw n) (fw 1) = some (fw n) := by
  obtain ⟨s, i, rx, hs, ex⟩ := (FI.own h).read
  have r1 : double.read (fw 1) = .number false (2 ^ 52) (-52) := by decide +kernel
  unfold Format.div
  rw [r1, (show fw n = wordOf (decide (n < 0)) n.natAbs from rfl), read_wordOf _ _ h]
  have hf : double.fractionBits + 2 = 54 := rfl
  have hl52 : (2 ^ 52 : Nat).log2 = 52 := by decide +kernel
  rw [hf]
  rcases Nat.eq_zero_or_pos n.natAbs with h0 | h0
  · rw [if_pos h0]
    simp only [Datum.quotient, Nat.shiftLeft_eq]
    rw [if_neg (by decide)]
    simp only [Option.map_some, Nat.zero_mul, Nat.zero_div, Nat.zero_mod, Bool.xor_false]
    have : n = 0 := by omega
    subst this
    rfl
  · rw [if_neg (by omega)]
    have hL : n.natAbs.log2 < 53 := (Nat.log2_lt (by omega)).2 h
    have hm : (n.natAbs * 2 ^ (52 - n.natAbs.log2)).log2 = 52 := by rw [log2_mul_pow _ _ h0]; omega
    simp only [Datum.quotient, hl52, hm, Nat.shiftLeft_eq, Bool.xor_false]
    rw [if_neg (by decide)]
    simp only [Option.map_some, Format.write]
    have e1 : 54 + 52 - 52 = 54 := rfl
    rw [e1, Nat.mul_assoc, ← Nat.pow_add]
    have hd : n.natAbs * 2 ^ (52 - n.natAbs.log2 + 54) / 2 ^ 52 = n.natAbs * 2 ^ (52 - n.natAbs.log2 + 2) := by
      rw [show 52 - n.natAbs.log2 + 54 = (52 - n.natAbs.log2 + 2) + 52 by omega, Nat.pow_add, ← Nat.mul_assoc, Nat.mul_div_cancel _ (by decide)]
    have hr : n.natAbs * 2 ^ (52 - n.natAbs.log2 + 54) % 2 ^ 52 = 0 := by
      rw [show 52 - n.natAbs.log2 + 54 = (52 - n.natAbs.log2 + 2) + 52 by omega, Nat.pow_add, ← Nat.mul_assoc, Nat.mul_mod_left]
    rw [hd, hr]
    have hmag : 2 * (n.natAbs * 2 ^ (52 - n.natAbs.log2 + 2)) + ((0 : Nat) != 0).toNat = n.natAbs * 2 ^ (55 - n.natAbs.log2) := by
      rw [show 55 - n.natAbs.log2 = (52 - n.natAbs.log2 + 2) + 1 by omega, Nat.pow_succ _ (52 - n.natAbs.log2 + 2)]
      simp only [bne_self_eq_false, Bool.toNat_false]; rw [Nat.add_zero, Nat.mul_comm 2, Nat.mul_assoc]
    have hpl : ((n.natAbs.log2 : Int) - 52 - -52 - ((54 : Nat) : Int) - 1) = -((55 - n.natAbs.log2 : Nat) : Int) := by omega
    rw [hmag, hpl, nearest_int _ _ _ h]

theorem not_nan {x : Nat} {n : Int} (h : FI x n) : double.order x x = some .eq := by
  rw [h.order h]; congr 1; show compareOfLessAndEq _ _ = _; simp [compareOfLessAndEq]
end Go.Proofs.YtlhonpmpchkkfaaGreatDoor.Fl
