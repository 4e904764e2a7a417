import Derived.Test.YtcmpfcijockmhaaGreatDoorS23
set_option linter.unusedSimpArgs false
set_option linter.unusedVariables false
namespace Go.Proofs.YtcmpfcijockmhaaGreatDoor
open Go.RowKit
open Fl
open Ieee (double)
set_option maxRecDepth 100000 in
set_option maxHeartbeats 1000000 in
theorem RuneLen_one (c : Int) (w : World) (h0 : 0 ≤ c) (hc : c < 55296) :
    Calls Tryz.prog 138 #[.int .i32 c] w fun e w' => e = .returned (.int .i64 1) ∧ w = w' := by
  go_enter Tryz.func138, Tryz.ntmps138
  go_wp2
  go_ret
  exact ⟨rfl, rfl⟩
set_option maxRecDepth 100000 in
set_option maxHeartbeats 1000000 in
theorem count_asc (s : ByteArray) (w : World) (hs : s.size ≤ 1000000) (ha : ∀ i, ∀ h : i < s.size, (s[i]'h).toNat < 128) :
    Calls Tryz.prog 56 #[.string s] w fun e w' => e = .returned (.int .i64 s.size) ∧ Fr w w' := by
  have Ha := Lib.hid ha; clear ha
  go_enter Tryz.func56, Tryz.ntmps56
  go_wp2
  go_loopw [3] (fun n w' => ∃ pos : Nat, pos ≤ s.size ∧ w' = w.iter s pos ∧ n = .int .i64 pos) (fun _ w' => s.size - w'.iterPos w.heap.size)
  case atStart => exact ⟨0, Nat.zero_le _, rfl, rfl⟩
  case round =>
    obtain ⟨pos, hpos, rfl, rfl⟩ := hrel
    by_cases hp : pos < s.size
    · have hb := Ha.out pos hp
      have hnx : ∀ ty, (Instr.next (.pointer (some ⟨w.heap.size, 0, none⟩)) true ty).run Tryz.prog (w.iter s pos) = _ := fun ty => run_next_ascii w s pos ty hp hb
      go_wp2_with fail
      refine (RuneLen_one _ _ (by omega) (by omega)).mono ?_
      rintro e w1 ⟨rfl, rfl⟩
      go_wp2
      go_roundw
      case rel => exact ⟨pos + 1, by omega, rfl, by simp⟩
      case measure => simp; omega
    · have hnx : ∀ ty, (Instr.next (.pointer (some ⟨w.heap.size, 0, none⟩)) true ty).run Tryz.prog (w.iter s pos) = _ := fun ty => run_next_end w s pos ty hp
      have hpe : pos = s.size := by omega
      subst hpe
      go_wp2
      go_ret
      exact ⟨rfl, (Fr.refl w).alloc _⟩
end Go.Proofs.YtcmpfcijockmhaaGreatDoor
