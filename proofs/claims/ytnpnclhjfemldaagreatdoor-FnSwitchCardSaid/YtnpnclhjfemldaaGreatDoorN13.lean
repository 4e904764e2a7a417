import Derived.Test.YtnpnclhjfemldaaGreatDoorN12
import Derived.Test.YtnpnclhjfemldaaGreatDoorA3
set_option linter.unusedSimpArgs false
set_option linter.unusedVariables false
/- SWITCH over whole numbers. -/
namespace Go.Proofs.YtnpnclhjfemldaaGreatDoor
open Go.RowKit
open Fl
open Ieee (double)
/-- The word of k / 2. -/
def half (k : Nat) : Nat := (floatBits .quo .f64 (fw k) 4611686018427387904).getD 0
theorem half_all : ∀ k : Fin 32, floatBits .quo .f64 (fw (k.val : Int)) 4611686018427387904 = some (half k.val) := by decide +kernel
theorem half_run (k : Nat) (hk : k < 32) (w : World) : (binOp .quo 35 (.float .f64 (fw k)) (.float .f64 4611686018427387904)).run Tryz.prog w = .ok (.float .f64 (half k)) w :=
  run_float_arith w .quo 35 .f64 _ _ _ (half_all ⟨k, hk⟩)
theorem floor_run (k : Nat) (hk : k < 32) (w : World) : (callFunc 110 #[.float .f64 (half k)]).run Tryz.prog w = .ok (.value (.float .f64 (fw ((k / 2 : Nat) : Int)))) w := by
  have h : k = 0 ∨ k = 1 ∨ k = 2 ∨ k = 3 ∨ k = 4 ∨ k = 5 ∨ k = 6 ∨ k = 7 ∨ k = 8 ∨ k = 9 ∨ k = 10 ∨ k = 11 ∨ k = 12 ∨ k = 13 ∨ k = 14 ∨ k = 15 ∨ k = 16 ∨ k = 17 ∨ k = 18 ∨ k = 19 ∨ k = 20 ∨ k = 21 ∨ k = 22 ∨ k = 23 ∨ k = 24 ∨ k = 25 ∨ k = 26 ∨ k = 27 ∨ k = 28 ∨ k = 29 ∨ k = 30 ∨ k = 31 := by omega
  rcases h with rfl | rfl | rfl | rfl | rfl | rfl | rfl | rfl | rfl | rfl | rfl | rfl | rfl | rfl | rfl | rfl | rfl | rfl | rfl | rfl | rfl | rfl | rfl | rfl | rfl | rfl | rfl | rfl | rfl | rfl | rfl | rfl <;> (clear hk; revert w; intro w; show _ = _; kernel_rfl)
theorem whole_run (k : Nat) (hk : k < 16) (w : World) : (convert 35 3 (.float .f64 (fw (k : Int)))).run Tryz.prog w = .ok (.int .i64 (k : Int)) w := by
  have h : k = 0 ∨ k = 1 ∨ k = 2 ∨ k = 3 ∨ k = 4 ∨ k = 5 ∨ k = 6 ∨ k = 7 ∨ k = 8 ∨ k = 9 ∨ k = 10 ∨ k = 11 ∨ k = 12 ∨ k = 13 ∨ k = 14 ∨ k = 15 := by omega
  rcases h with rfl | rfl | rfl | rfl | rfl | rfl | rfl | rfl | rfl | rfl | rfl | rfl | rfl | rfl | rfl | rfl <;> (clear hk; revert w; intro w; show _ = _; kernel_rfl)
set_option maxRecDepth 100000 in
set_option maxHeartbeats 1000000 in
theorem Floor_half (k : Nat) (hk : k < 32) (w : World) :
    Calls Tryz.prog 36 #[.float .f64 (half k)] w fun e w' => e = .returned (.float .f64 (fw ((k / 2 : Nat) : Int))) ∧ w = w' := by
  have h1 := floor_run k hk
  go_enter Tryz.func36, Tryz.ntmps36
  go_wp2
  go_ret
  exact ⟨rfl, rfl⟩
def numFa (n : Int) : Value := fa 1 (fw n) mt mt
def naE : ByteArray := ⟨#[35, 78, 47, 65]⟩
def naFa : Value := fa 5 0 naE naE
set_option maxRecDepth 100000 in
set_option maxHeartbeats 1000000 in
theorem Back_any (w : World) (p : Nat) (bs : List Nat) (vs : List Value) (hL : LS w p bs vs) (h0 : 0 < bs.length) :
    Calls Tryz.prog 37 #[.pointer (some ⟨p, 0, none⟩)] w fun e w' => e = .returned (.pointer (some ⟨bs[bs.length - 1], 0, none⟩)) ∧ w = w' := by
  have r4 := hL.r4
  have r1 := hL.r1
  have hl := hL.hl
  have e : bs.getLastD p = bs[bs.length - 1] := by
    rw [List.getLastD_eq_getLast?, List.getLast?_eq_getElem?, List.getElem?_eq_getElem (by omega)]; rfl
  rw [e] at r1
  clear e hL
  generalize bs[bs.length - 1] = b at *
  obtain ⟨n, hn⟩ : ∃ n, n = bs.length := ⟨_, rfl⟩
  rw [← hn] at r4 hl h0
  clear hn
  go_enter Tryz.func37, Tryz.ntmps37
  go_wp2
  go_ret
  exact ⟨rfl, rfl⟩
/-- What SWITCH chooses. -/
def pick (g : Nat → Int) : Nat → Nat → Option Int
  | 0, _ => none
  | k + 1, q => if g (2 * q + 1) = g 0 then some (g (2 * q + 2)) else pick g k (q + 1)
def swVal (g : Nat → Int) (m : Nat) : Option Int :=
  match pick g ((m - 1) / 2) 0 with
  | some v => some v
  | none => if (m - 1) % 2 = 1 then some (g (m - 1)) else none
def optFa : Option Int → Value
  | some v => numFa v
  | none => naFa
def cellsFa (ty : Int) (x : Nat) (s e : ByteArray) : Array Value := #[.string mt, .float .f64 x, .string s, .slice none 0 0, .slice none 0 0, .bool false, .string e, .int .u8 ty, .pointer none, .pointer none]
theorem obj_rules {W : World} {b : Nat} {cs : Array Value} {ty : TypeId} (h : W.heap[b]? = some (.cells cs ty (0, 0))) : (∀ j, W.cell? ⟨b, j, none⟩ = cs[j]?) ∧ (∀ j, W.frozen? ⟨b, j, none⟩ = false) :=
  ⟨fun j => Lib.cell_of_heap h j, fun j => by simp [World.frozen?, h]⟩
theorem elFa {w : World} {p : Nat} {bs : List Nat} {a : List Int} (hL : LS w p bs (a.map numFa)) (i : Nat) (h : i < bs.length) :
    w.cell? ⟨bs[i], 3, none⟩ = some (.iface 58 (.agg #[.string mt, .float .f64 (fw (a.getD i 0)), .string mt, .slice none 0 0, .slice none 0 0, .bool false, .string mt, .int .u8 1, .pointer none, .pointer none])) := by
  have hl : bs.length = a.length := by have := hL.len; simpa using this
  have hi : i < a.length := by omega
  have := (hL.el i _ _ (List.getElem?_eq_getElem h) (by rw [List.getElem?_map, List.getElem?_eq_getElem hi]; rfl)).2.2
  rw [this, List.getD_eq_getElem?_getD, List.getElem?_eq_getElem hi]
  rfl
theorem num_eq (a b : Int) : ((numT a).toList == (numT b).toList) = decide (a = b) := by
  rw [ByteArray.toList_eq, ByteArray.toList_eq]
  by_cases h : a = b
  · subst h; simp
  · have hne : (numT a).data.toList ≠ (numT b).data.toList := fun hh => h (itoa_inj (by simpa [numT] using hh))
    rw [show decide (a = b) = false from decide_eq_false h]; exact beq_eq_false_iff_ne.2 hne
end Go.Proofs.YtnpnclhjfemldaaGreatDoor
