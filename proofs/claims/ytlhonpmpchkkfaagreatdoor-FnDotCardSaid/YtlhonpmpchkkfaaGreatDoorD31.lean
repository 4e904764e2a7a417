import Derived.Test.YtlhonpmpchkkfaaGreatDoorD30
set_option linter.unusedSimpArgs false
set_option linter.unusedVariables false
/- FnDot answers true. -/
namespace Go.Proofs.YtlhonpmpchkkfaaGreatDoor
open Go.RowKit
open Fl
open Ieee (double)
set_option maxRecDepth 100000 in
set_option maxHeartbeats 2000000 in
theorem dot_far1 (A : Option Addr) (capA : Nat) (n : Nat) (B : Option Addr) (capB m : Nat) (w : World) (h : 2147483647 < n) :
    Calls Tryz.prog 3 #[.slice A n capA, .slice B m capB] w fun e w' => e = .returned (.bool true) ∧ Fr w w' := by
  have h1 : (2147483647 : Int) < (n : Int) := by omega
  clear h
  go_enter Tryz.func3, Tryz.ntmps3
  go_wp2_with fail
  go_ret
  exact ⟨rfl, Fr.refl _⟩
set_option maxRecDepth 100000 in
set_option maxHeartbeats 2000000 in
theorem dot_far2 (A : Option Addr) (capA : Nat) (n : Nat) (B : Option Addr) (capB m : Nat) (w : World) (h0 : n ≤ 2147483647) (h : 2147483647 < m) :
    Calls Tryz.prog 3 #[.slice A n capA, .slice B m capB] w fun e w' => e = .returned (.bool true) ∧ Fr w w' := by
  have h1 : (2147483647 : Int) < (m : Int) := by omega
  have h2 : (n : Int) ≤ 2147483647 := by omega
  clear h h0
  go_enter Tryz.func3, Tryz.ntmps3
  go_wp2_with fail
  go_ret
  exact ⟨rfl, Fr.refl _⟩
set_option maxRecDepth 100000 in
set_option maxHeartbeats 2000000 in
theorem dot_none (A : Option Addr) (capA : Nat) (B : Option Addr) (capB m : Nat) (w : World) (h0 : m ≤ 2147483647) :
    Calls Tryz.prog 3 #[.slice A 0 capA, .slice B m capB] w fun e w' => e = .returned (.bool true) ∧ Fr w w' := by
  have h2 : (m : Int) ≤ 2147483647 := by omega
  clear h0
  go_enter Tryz.func3, Tryz.ntmps3
  go_wp2_with fail
  go_ret
  exact ⟨rfl, Fr.refl _⟩
theorem FnDot_calls (hV : ValC) (A : Option Addr) (capA : Nat) (ls : List Int) (B : Option Addr) (capB : Nat) (ks : List Int) (w : World) (hA : ZA w A ls) (hB : ZA w B ks) (hT : T3 w) :
    Calls Tryz.prog 3 #[.slice A ls.length capA, .slice B ks.length capB] w fun e w' => e = .returned (.bool true) ∧ Fr w w' := by
  rcases Nat.lt_or_ge 2147483647 ls.length with h1 | h1
  · exact dot_far1 A capA _ B capB _ w h1
  rcases Nat.lt_or_ge 2147483647 ks.length with h2 | h2
  · exact dot_far2 A capA _ B capB _ w h1 h2
  rcases Nat.eq_zero_or_pos ls.length with h3 | h3
  · rw [h3]; exact dot_none A capA B capB _ w h2
  rcases Nat.lt_or_ge 30 ls.length with h4 | h4
  · exact dot_great hV A capA ls B capB ks w hA hB h4 h1 h2 hT
  · exact dot_small hV A capA ls B capB ks w hA hB h4 h2 h3 hT
end Go.Proofs.YtlhonpmpchkkfaaGreatDoor
