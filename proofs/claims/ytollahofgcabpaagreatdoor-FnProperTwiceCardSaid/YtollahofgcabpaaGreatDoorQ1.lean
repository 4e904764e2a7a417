import Derived.Test.YtollahofgcabpaaGreatDoorQ0
import Derived.Test.YtollahofgcabpaaGreatDoorS28
import Derived.Lib.Props
import Derived.Lib.LaidTab
import Derived.Lib.Latin
import Derived.Lib.Walk
set_option linter.unusedSimpArgs false
set_option linter.unusedVariables false
/- unicode's three over ASCII, at the table as the text lays it. -/
namespace Go.Proofs.YtollahofgcabpaaGreatDoor
open Go.RowKit Go.Lib
/-- The table of the first 128 places, as read. -/
def LT (w : World) : Prop := ∀ c, c < 256 → w.cell? ⟨0, c, none⟩ = some (.int .u8 (Lib.propertiesTab.getD c 0))
theorem LT.lt {w : World} (h : LT w) : 0 < w.heap.size := by
  have := h 0 (by decide)
  rcases Nat.lt_or_ge 0 w.heap.size with h' | h'
  · exact h'
  · simp [World.cell?, Array.getElem?_eq_none h'] at this
theorem LT.fr {w w' : World} (h : LT w) (hf : Fr w w') : LT w' := fun c hc => (hf.cells.1 _ _ h.lt).trans (h c hc)
theorem LT.of {w : World} (h : Lib.TabIs Tryz.prog w "unicode.properties" .u8 Lib.propertiesTab) : LT w := fun c hc =>
  h.cell (by kernel_rfl) c (by rw [Lib.propertiesTab_length]; exact hc)
theorem letter_all : ∀ k : Fin 128, Lib.isLetterL k.val = isL (UInt8.ofNat k.val) := by decide +kernel
theorem letter_at (c : UInt8) (h : c.toNat < 128) : Lib.isLetterL (c.toNat : Nat) = isL c := by
  have := letter_all ⟨c.toNat, h⟩
  simpa using this
set_option maxHeartbeats 2000000 in
set_option maxRecDepth 1000000 in
theorem IsLetter_any (c : Nat) (w : World) (hc : c < 256) (ht : LT w) :
    Calls Tryz.prog 28 #[.int .i32 c] w fun e w' => e = .returned (.bool (Lib.isLetterL c)) ∧ w = w' := by
  obtain ⟨p1, p2, p3, p4, p5⟩ := Lib.props_all ⟨c, hc⟩
  simp only at p1 p2 p3 p4 p5
  have hcell := ht c hc
  rw [← p1]
  generalize Lib.propertiesTab.getD c 0 = pv at *
  have hand : bits .and .u8 pv 96 = ((pv.toNat &&& 96 : Nat) : Int) := u8_and pv 96 p4 p5 (by decide) (by decide)
  generalize pv.toNat &&& 96 = q at *
  clear p1 p2 p3 ht
  have hcz : (c : Int) ≤ 255 := by omega
  have hcz2 : (c : Int) < 256 := by omega
  go_enter Tryz.func28, Tryz.ntmps28
  go_wp2
  all_goals (go_ret; refine ⟨congrArg Ending.returned ?_, rfl⟩; show Value.bool _ = Value.bool _; refine congrArg Value.bool ?_; by_cases hq : q = 0 <;> simp [hq] <;> omega)
set_option maxHeartbeats 1000000 in
theorem ToUpper_any (r : Int) (w : World) (h : r ≤ 127) :
    Calls Tryz.prog 30 #[.int .i32 r] w fun e w' => e = .returned (.int .i32 (Lib.toUpperR r)) ∧ w = w' := by
  go_enter Tryz.func30, Tryz.ntmps30
  go_wp2
  all_goals (go_ret; refine ⟨congrArg Ending.returned ?_, rfl⟩; show Value.int .i32 _ = Value.int .i32 _; refine congrArg (Value.int .i32) ?_; unfold Lib.toUpperR; split <;> omega)
set_option maxHeartbeats 1000000 in
theorem ToLower_any (r : Int) (w : World) (h : r ≤ 127) :
    Calls Tryz.prog 31 #[.int .i32 r] w fun e w' => e = .returned (.int .i32 (Lib.toLowerR r)) ∧ w = w' := by
  go_enter Tryz.func31, Tryz.ntmps31
  go_wp2
  all_goals (go_ret; refine ⟨congrArg Ending.returned ?_, rfl⟩; show Value.int .i32 _ = Value.int .i32 _; refine congrArg (Value.int .i32) ?_; unfold Lib.toLowerR; split <;> omega)
/-- The three in the bytes' own words. -/
theorem IsLetter_b (c : UInt8) (w : World) (hc : c.toNat < 128) (ht : LT w) :
    Calls Tryz.prog 28 #[.int .i32 (c.toNat : Int)] w fun e w' => e = .returned (.bool (isL c)) ∧ w = w' := by
  have := IsLetter_any c.toNat w (by omega) ht
  rwa [letter_at c hc] at this
theorem ToUpper_b (c : UInt8) (w : World) (hc : c.toNat < 128) :
    Calls Tryz.prog 30 #[.int .i32 (c.toNat : Int)] w fun e w' => e = .returned (.int .i32 ((upB c).toNat : Int)) ∧ w = w' := by
  have := ToUpper_any (c.toNat : Int) w (by omega)
  rw [upB_int]; exact this
theorem ToLower_b (c : UInt8) (w : World) (hc : c.toNat < 128) :
    Calls Tryz.prog 31 #[.int .i32 (c.toNat : Int)] w fun e w' => e = .returned (.int .i32 ((lowB c).toNat : Int)) ∧ w = w' := by
  have := ToLower_any (c.toNat : Int) w (by omega)
  rw [lowB_int]; exact this
end Go.Proofs.YtollahofgcabpaaGreatDoor
