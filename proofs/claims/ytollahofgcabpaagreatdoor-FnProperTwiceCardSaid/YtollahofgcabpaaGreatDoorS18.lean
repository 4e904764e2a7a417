import Derived.Test.YtollahofgcabpaaGreatDoorS17
set_option linter.unusedSimpArgs false
set_option linter.unusedVariables false
namespace Go.Proofs.YtollahofgcabpaaGreatDoor
open Go.RowKit
set_option maxRecDepth 100000 in
set_option maxHeartbeats 400000 in
theorem shortTexts_yes (A : Option Addr) (cap : Nat) (l : List ByteArray) (w : World) (hv : TL w A l) (hs : ∀ x ∈ l, x.size ≤ 1000) :
    Calls Tryz.prog 4 #[.slice A l.length cap] w fun e w' => e = .returned (.bool true) ∧ w = w' := by
  have HV := Lib.hid hv; clear hv
  have HF := Lib.hid hs; clear hs
  have hl := HV.out.1
  go_enter Tryz.func4, Tryz.ntmps4
  go_wp2
  go_loop [3] (fun i => ∃ k : Nat, k ≤ l.length ∧ i = .int .i64 k) (fun i => l.length - (intOf i).toNat)
  case atStart => exact ⟨0, Nat.zero_le _, rfl⟩
  case round =>
    obtain ⟨k, hk, rfl⟩ := hrel
    by_cases hlt : k < l.length
    · obtain ⟨g, rfl, hg, c0⟩ := HV.out.at hlt
      have hH : l[k].size ≤ 1000 := HF.out l[k] (List.getElem_mem hlt)
      generalize hx : l[k] = x at *
      go_wp2
      go_round
      case rel => exact ⟨k + 1, by omega, by simp⟩
      case measure => simp [intOf]; omega
    · go_wp2
      go_ret
      exact ⟨rfl, rfl⟩
set_option maxRecDepth 100000 in
set_option maxHeartbeats 400000 in
theorem shortTexts_no (A : Option Addr) (cap : Nat) (l : List ByteArray) (w : World) (hv : TL w A l) (hs : ∃ i, ∃ h : i < l.length, 1000 < l[i].size) :
    Calls Tryz.prog 4 #[.slice A l.length cap] w fun e w' => e = .returned (.bool false) ∧ w = w' := by
  have HV := Lib.hid hv; clear hv
  obtain ⟨i0, hi0, hbig⟩ := hs
  have HB := Lib.hid hbig; clear hbig
  have hl := HV.out.1
  go_enter Tryz.func4, Tryz.ntmps4
  go_wp2
  go_loop [3] (fun i => ∃ k : Nat, k ≤ i0 ∧ i = .int .i64 k) (fun i => l.length - (intOf i).toNat)
  case atStart => exact ⟨0, Nat.zero_le _, rfl⟩
  case round =>
    obtain ⟨k, hk, rfl⟩ := hrel
    have hlt : k < l.length := by omega
    obtain ⟨g, rfl, hg, c0⟩ := HV.out.at hlt
    by_cases hH : 1000 < l[k].size
    · generalize hx : l[k] = x at *
      go_wp2
      go_ret
      exact ⟨rfl, rfl⟩
    · have hne : k ≠ i0 := by
        intro e; subst e; exact hH HB.out
      generalize hx : l[k] = x at *
      go_wp2
      go_round
      case rel => exact ⟨k + 1, by omega, by simp⟩
      case measure => simp [intOf]; omega
end Go.Proofs.YtollahofgcabpaaGreatDoor
