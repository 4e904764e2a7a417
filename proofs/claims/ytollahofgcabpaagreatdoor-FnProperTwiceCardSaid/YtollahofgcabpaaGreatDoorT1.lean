import Derived.Test.YtollahofgcabpaaGreatDoorProg
import Derived.WalkKit
import Derived.WalkSpells
import Derived.WalkLawsBesides
import Derived.Outline
import Derived.Lib.Hide
set_option linter.unusedSimpArgs false
set_option linter.unusedVariables false
namespace Go.Proofs.YtollahofgcabpaaGreatDoor
open Go.RowKit
def ascB (c : UInt8) : Bool := 32 ≤ c && c ≤ 126
def asc (l : List UInt8) : Bool := l.all ascB
theorem ascB_iff (c : UInt8) : ascB c = decide (32 ≤ (c.toNat : Int) ∧ (c.toNat : Int) ≤ 126) := by
  unfold ascB
  rw [Bool.eq_iff_iff]; simp [UInt8.le_iff_toNat_le]; omega
theorem asc_take (s : ByteArray) (k : Nat) (h : k < s.size) : asc (s.data.toList.take (k + 1)) = (asc (s.data.toList.take k) && ascB s[k]) := by
  rw [List.take_succ_eq_append_getElem (by simpa using h)]
  simp [asc]
  rfl
theorem asc_bad (s : ByteArray) (k : Nat) (h : k < s.size) (hb : ascB s[k] = false) : asc s.data.toList = false := by
  have := asc_take s k h
  rw [hb, Bool.and_false] at this
  rw [Bool.eq_false_iff] at this ⊢
  intro hh
  apply this
  unfold asc at hh ⊢
  rw [List.all_eq_true] at hh ⊢
  exact fun x hx => hh x (List.mem_of_mem_take hx)

set_option maxHeartbeats 400000 in
theorem Ascii_any (s : ByteArray) (w : World) (hs : s.size ≤ maxLen) :
    Calls Tryz.prog 5 #[.string s] w fun e w' => e = .returned (.bool (asc s.data.toList)) ∧ w = w' := by
  unfold maxLen at hs
  go_enter Tryz.func5, Tryz.ntmps5
  go_wp2
  go_loop [3] (fun i => ∃ k : Nat, k ≤ s.size ∧ i = .int .i64 k ∧ asc (s.data.toList.take k) = true) (fun i => s.size - (intOf i).toNat)
  case atStart => exact ⟨0, Nat.zero_le _, rfl, by simp [asc]⟩
  case round =>
    obtain ⟨k, hk, rfl, hall⟩ := hrel
    have Hall := Lib.hid hall; clear hall
    by_cases hlt : k < s.size
    · have hA := Lib.hid (asc_take s k hlt)
      have hB := Lib.hid (ascB_iff s[k])
      have hC := Lib.hid (asc_bad s k hlt)
      by_cases hb : 32 ≤ (s[k].toNat : Int) ∧ (s[k].toNat : Int) ≤ 126
      · have hb' : ascB s[k] = true := by rw [hB.out]; simpa using hb
        have hA' := Lib.hid (show asc (s.data.toList.take (k + 1)) = true by rw [hA.out, Hall.out, hb']; rfl)
        clear hA hB hC hb'
        obtain ⟨hb1, hb2⟩ := hb
        go_wp2
        go_round
        case rel => exact ⟨k + 1, by omega, by go_num, hA'.out⟩
        case measure => simp [intOf]; omega
      · have hb' : ascB s[k] = false := by rw [hB.out]; simpa using hb
        have hA' := Lib.hid (hC.out hb')
        clear hA hB hC hb'
        by_cases hb1 : (s[k].toNat : Int) < 32
        · clear hb
          go_wp2
          go_ret
          exact ⟨by rw [hA'.out]; rfl, rfl⟩
        · have hb2 : 126 < (s[k].toNat : Int) := by omega
          clear hb
          go_wp2
          go_ret
          exact ⟨by rw [hA'.out]; rfl, rfl⟩
    · go_wp2
      go_ret
      have hf : asc s.data.toList = true := by have := Hall.out; rwa [List.take_of_length_le (by simp; omega)] at this
      exact ⟨by rw [hf]; rfl, rfl⟩
end Go.Proofs.YtollahofgcabpaaGreatDoor
