import Derived.Test.YtlhonpmpchkkfaaGreatDoorN8
import Derived.Test.YtlhonpmpchkkfaaGreatDoorGD
set_option linter.unusedSimpArgs false
set_option linter.unusedVariables false
/- A whole number below 2^20 as text, in the format %g. -/
namespace Go.Proofs.YtlhonpmpchkkfaaGreatDoor
open Go.RowKit
open Fl
open Go.Lib (dg nDigits FmtInv decDigits)
theorem bits_run (x : Nat) (w : World) : (callFunc 88 #[.float .f64 x]).run Tryz.prog w = .ok (.value (.int .u64 x)) w := by kernel_rfl
theorem i64_and2047 (n : Int) : bits .and .i64 n 2047 = n % 2048 := by
  have h1 : (BitVec.ofInt 64 2047).toNat = 2 ^ 11 - 1 := by decide
  have key : (BitVec.ofInt 64 n &&& BitVec.ofInt 64 2047).toNat = (n % ((2 ^ 64 : Nat) : Int)).toNat % 2 ^ 11 := by
    rw [BitVec.toNat_and, BitVec.toNat_ofInt, h1, Nat.and_two_pow_sub_one_eq_mod]
  show IntKind.i64.wrap ((BitVec.ofInt 64 n &&& BitVec.ofInt 64 2047).toNat : Nat) = n % 2048
  rw [key, IntKind.wrap_i64]
  omega
theorem u64_mant (x : Nat) (h : x < 18446744073709551616) : bits .and .u64 (x : Int) 4503599627370495 = ((x % 4503599627370496 : Nat) : Int) := by
  have := u64_and_nat x 4503599627370495 h (by decide)
  rw [show ((4503599627370495 : Nat) : Int) = 4503599627370495 from rfl] at this
  rw [this, show (4503599627370495 : Nat) = 2 ^ 52 - 1 from rfl, Nat.and_two_pow_sub_one_eq_mod]
theorem u64_lead (x : Nat) (h : x < 4503599627370496) : bits .or .u64 (x : Int) 4503599627370496 = ((x + 4503599627370496 : Nat) : Int) := by
  have := u64_or_nat x 4503599627370496 (by omega) (by decide)
  rw [show ((4503599627370496 : Nat) : Int) = 4503599627370496 from rfl] at this
  rw [this, Nat.or_comm, show (4503599627370496 : Nat) = 2 ^ 52 * 1 from rfl, ← Nat.two_pow_add_eq_or_of_lt (show x < 2 ^ 52 from h)]
  omega
theorem bitLen53 (x : Nat) (h0 : 2 ^ 52 ≤ x) (h1 : x < 2 ^ 53) : Lib.bitLen x = 53 := by
  rw [Lib.bitLen_shift 52 x h0 (by omega), show x / 2 ^ 52 = 1 by omega]
  decide
set_option maxRecDepth 100000 in
set_option maxHeartbeats 4000000 in
theorem fmtEFG_zero (B : Nat) (dst : Value) (w : World) (hown : w.ownsRow B 5 1 dst 0 []) (hB : B ≤ w.heap.size) :
    Calls Tryz.prog 91 #[dst, .bool false, .slice none 0 0, .int .i64 0, .int .i64 0, .int .i64 (-1), .int .u8 103, .bool true] w fun e w' => ∃ v,
      e = .returned v ∧ w'.ownsRow B 5 1 v 1 [.int .u8 48] ∧ (∀ w0, w0.heap.size ≤ B → Fr w0 w → Fr w0 w') := by
  obtain ⟨i0, hi, hz0, hz1, hz2⟩ := info_u8
  have HO := Lib.hid hown; clear hown
  go_enter Tryz.func91, Tryz.ntmps91
  go_wp2_with (at_builtin; refine wpList_append_own _ rfl _ _ 118 rfl B 5 i0 (.int .u8 0) 1 1 Tryz.underlying118 hi hz0 hz1 hz2 rfl (by decide) _ _ _ rfl (HO.out.alloc _) ⟨w.heap.size, 0, none⟩ 1 1 [.int .u8 48] rfl rfl (byte_new _ _ _) (byte_one _) (by simp only [maxLen]; omega) (by omega) (by simp; omega) ?_)
  intro v1 W1 hown1 hgrow1 _
  have hfr1 : ∀ w0, w0.heap.size ≤ B → Fr w0 w → Fr w0 W1 := fun w0 h0 h => (h.alloc _).grown hgrow1 (fun k hk => Nat.le_trans h0 ((HO.out.alloc (.cells #[.int .u8 48] 5)).lt k hk).1)
  clear hgrow1
  go_wp2
  go_ret
  exact ⟨_, rfl, hown1, hfr1⟩
end Go.Proofs.YtlhonpmpchkkfaaGreatDoor
