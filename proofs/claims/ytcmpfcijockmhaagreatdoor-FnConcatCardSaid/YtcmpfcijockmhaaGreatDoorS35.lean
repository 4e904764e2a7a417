import Derived.Test.YtcmpfcijockmhaaGreatDoorS34
set_option linter.unusedSimpArgs false
set_option linter.unusedVariables false
namespace Go.Proofs.YtcmpfcijockmhaaGreatDoor
open Go.RowKit
open Fl
open Ieee (double)
set_option maxRecDepth 100000 in
set_option maxHeartbeats 2000000 in
theorem Flat_table0 (g r : Nat) (c c' : Nat) (A : Option Addr) (cap : Nat) (w : World)
    (h0 : w.cell? ⟨g, 0, none⟩ = some (.int .i64 5)) (h4 : w.cell? ⟨g, 4, none⟩ = some (.slice (some ⟨r, 0, none⟩) 1 c')) (hr : w.cell? ⟨r, 0, none⟩ = some (.slice A 0 cap)) (hg : g < w.heap.size) (hrl : r < w.heap.size) :
    Calls Tryz.prog 30 #[.slice (some ⟨g, 0, none⟩) 1 c] w fun e w' => e = .returned (.slice none 0 0) ∧ Fr w w' := by
  obtain ⟨i0, hi, hz0, hz1, hz2⟩ := info_parts Tryz.infoVal
  go_enter Tryz.func30, Tryz.ntmps30
  go_wp2
  go_loopw [3, 4] (fun v i wr => (i = .int .i64 0 ∨ i = .int .i64 1) ∧ v = .slice none 0 0 ∧ Fr w wr) (fun _ i _ => 1 - (intOf i).toNat)
  case atStart => exact ⟨.inl rfl, rfl, Fr.refl _⟩
  case round =>
    obtain ⟨rfl | rfl, rfl, hf⟩ := hrel
    · obtain ⟨hc, hz⟩ := hf.cells
      go_wp2
      go_loopw [3, 5] (fun v i wq => (i = .int .i64 0 ∨ i = .int .i64 1) ∧ v = .slice none 0 0 ∧ Fr w wq) (fun _ i _ => 1 - (intOf i).toNat)
      case atStart => exact ⟨.inl rfl, rfl, hf⟩
      case round =>
        clear hc hz hf
        obtain ⟨rfl | rfl, rfl, hf⟩ := hrel
        · obtain ⟨hc, hz⟩ := hf.cells
          go_wp2_with fail
          refine (Flat_nil A cap _).mono ?_
          rintro e w1 ⟨rfl, hf1⟩
          have hf2 := hf.step hf1
          clear hf hc hz
          go_wp2_with (at_builtin; refine wpList_append_own_none rfl _ _ 29 rfl w.heap.size 27 i0 5 Tryz.underlying29 hi _ 0 [] rfl (World.ownsRow_nil _ _ _ _) rfl ?_)
          go_wp2
          go_roundw
          case rel => exact ⟨.inr rfl, rfl, hf2⟩
          case measure => simp [intOf]
        · obtain ⟨hc, hz⟩ := hf.cells
          go_wp2
          go_roundw
          case rel => exact ⟨.inr rfl, rfl, hf⟩
          case measure => simp [intOf]
    · go_wp2
      go_ret
      exact ⟨rfl, hf⟩
set_option maxRecDepth 100000 in
set_option maxHeartbeats 2000000 in
theorem doubtful_table0 (r : Nat) (c' : Nat) (A : Option Addr) (cap : Nat) (w : World)
    (hr : w.cell? ⟨r, 0, none⟩ = some (.slice A 0 cap)) (hrl : r < w.heap.size) :
    Calls Tryz.prog 18 #[.agg #[.int .i64 5, .int .i64 0, .int .i64 0, .string mt, .slice (some ⟨r, 0, none⟩) 1 c']] w fun e w' => e = .returned (.bool false) ∧ Fr w w' := by
  go_enter Tryz.func18, Tryz.ntmps18
  go_wp2_with fail
  refine (Flat_table0 _ r 1 c' A cap _ (by simp [go_sem]) (by simp [go_sem]) (by simp [go_sem, hr, hrl]) (by simp) (by simp; omega)).mono ?_
  rintro e w1 ⟨rfl, hf1⟩
  go_wp2
  go_loop [4] (fun i => i = .int .i64 0) (fun i => 0)
  case atStart => rfl
  case round =>
    subst hrel
    go_wp2
    go_ret
    exact ⟨rfl, (by repeat (first | (with_reducible exact Fr.refl _) | ((with_reducible refine Fr.set ?_ ?_ _); focus (simp; done)) | (with_reducible refine Fr.alloc ?_ _) | (with_reducible refine Fr.drew ?_) | (with_reducible refine Fr.step ?_ (by assumption))))⟩
set_option maxRecDepth 100000 in
set_option maxHeartbeats 4000000 in
theorem agrees_CONCAT_empty (A : Option Addr) (cap : Nat) (w : World) :
    Calls Tryz.prog 8 #[.func (.func 15) #[] #[], .string nmCONCAT, .slice A 0 cap] w fun e w' => e = .returned (.bool true) ∧ Fr w w' := by
  have Hc := Lib.hid (fun w => Call_CONCAT_none A cap w)
  unfold nmCONCAT at Hc ⊢
  go_enter Tryz.func8, Tryz.ntmps8
  go_wp2_with fail
  refine (Hc.out _).mono ?_
  rintro e w1 ⟨rfl, hf1⟩
  obtain ⟨hc1, hz1⟩ := hf1.cells
  have hlt1 := hf1.size
  unfold sv
  go_wp2_with fail
  refine (Table_any _ 1 1 _).mono ?_
  rintro e w2 ⟨rfl, hf2⟩
  obtain ⟨hc2, hz2⟩ := hf2.cells
  have hlt2 := hf2.size
  simp at hc2 hz2 hlt2
  have h12 : w1.heap.size < w2.heap.size := by omega
  have h12' : w1.heap.size + 1 < w2.heap.size := by omega
  go_wp2_with fail
  refine (doubtful_table0 _ 1 A cap _ (by rw [hc2 _ _ (by omega)]; simp [go_sem]) h12').mono ?_
  rintro e w3 ⟨rfl, hf3⟩
  obtain ⟨hc3, hz3⟩ := hf3.cells
  have hlt3 := hf3.size
  have h13 : w1.heap.size < w3.heap.size := by omega
  go_wp2_with fail
  refine (doubtful_yes 0 0 mt _).mono ?_
  rintro e w4 ⟨rfl, hf4⟩
  go_wp2
  go_ret
  exact ⟨rfl, (by repeat (first | (with_reducible exact Fr.refl _) | ((with_reducible refine Fr.set ?_ ?_ _); focus (simp; done)) | (with_reducible refine Fr.alloc ?_ _) | (with_reducible refine Fr.drew ?_) | (with_reducible refine Fr.step ?_ (by assumption))))⟩
end Go.Proofs.YtcmpfcijockmhaaGreatDoor
