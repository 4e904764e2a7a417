import Derived.Test.YtlhonpmpchkkfaaGreatDoorGC
import Derived.Test.YtlhonpmpchkkfaaGreatDoorF0
set_option linter.unusedSimpArgs false
set_option linter.unusedVariables false
namespace Go.Proofs.YtlhonpmpchkkfaaGreatDoor
open Go.RowKit
open Fl
open Ieee (double)
@[go_sem] theorem run_store_float (P : Program) (w : World) (a : Addr) (m : Mode) (k : FloatKind) (x : Nat) : (store a (.float k x) m).run P w = stored P w a (.float k x) m := run_store P w a _ m rfl
/-- A value of the program without rows. -/
def iv (k : Int) (x : Nat) (s : ByteArray) : Value := .agg #[.int .i64 k, .float .f64 x, .string s, .slice none 0 0]
set_option maxRecDepth 100000 in
set_option maxHeartbeats 1000000 in
theorem of_num (n : Int) (w : World) (hn : n.natAbs < 2 ^ 53) :
    Calls Tryz.prog 8 #[sv 1 n 1 mt] w fun e w' => e = .returned (iv 1 (fw n) mt) ∧ Fr w w' := by
  have h1 : floatOfInt .f64 n = fw n := floatOfInt_fw n hn
  have h2 : floatOfInt .f64 1 = fw 1 := floatOfInt_fw 1 (by decide)
  have h3 : ∀ w, (binOp .quo 27 (.float .f64 (fw n)) (.float .f64 (fw 1))).run Tryz.prog w = .ok (.float .f64 (fw n)) w := fun w => run_float_arith w .quo 27 .f64 _ _ _ (show floatBits .quo .f64 _ _ = some _ from FI.div_one hn)
  clear hn
  unfold sv
  go_enter Tryz.func8, Tryz.ntmps8
  go_wp2
  exact bodyPost_ret (v := .agg #[.int .i64 1, .float .f64 (fw n), .string mt, .slice none 0 0]) (by simp [results, Tryz.results8, go_sem, sv, mt, *]) rfl ⟨rfl, (by repeat (first | (with_reducible exact Fr.refl _) | ((with_reducible refine Fr.set ?_ ?_ _); focus (simp; done)) | (with_reducible refine Fr.alloc ?_ _) | (with_reducible refine Fr.drew ?_) | (with_reducible refine Fr.step ?_ (by assumption))))⟩
end Go.Proofs.YtlhonpmpchkkfaaGreatDoor
namespace Go.Proofs.YtlhonpmpchkkfaaGreatDoor
open Go.RowKit
open Fl
/-- A value of the program without rows. -/
structure IVal where
  k : Int
  x : Nat
  t : ByteArray
def IVal.cells (x : IVal) : List Value := [.int .i64 x.k, .float .f64 x.x, .string x.t, .slice none 0 0]
def IL (w : World) (A : Option Addr) (l : List IVal) : Prop :=
  l.length ≤ 1000000 ∧ (0 < l.length → ∃ g, A = some ⟨g, 0, none⟩ ∧ g < w.heap.size ∧ ∀ i x, l[i]? = some x → ∀ j u, x.cells[j]? = some u → w.cell? ⟨g, i * 4 + j, none⟩ = some u)
theorem IL.fr {w w' : World} {A : Option Addr} {l : List IVal} (h : IL w A l) (hf : Fr w w') : IL w' A l :=
  ⟨h.1, fun hn => by
    obtain ⟨g, e, hg, hc⟩ := h.2 hn
    exact ⟨g, e, Nat.lt_of_lt_of_le hg hf.size, fun i x hx j u hu => (hf.cells.1 _ _ hg).trans (hc i x hx j u hu)⟩⟩
theorem IL.at {w : World} {A : Option Addr} {l : List IVal} (h : IL w A l) {i : Nat} (hi : i < l.length) :
    ∃ g, A = some ⟨g, 0, none⟩ ∧ g < w.heap.size ∧ w.cell? ⟨g, i * 4, none⟩ = some (.int .i64 l[i].k) ∧ w.cell? ⟨g, i * 4 + 1, none⟩ = some (.float .f64 l[i].x) ∧
      w.cell? ⟨g, i * 4 + 2, none⟩ = some (.string l[i].t) ∧ w.cell? ⟨g, i * 4 + 3, none⟩ = some (.slice none 0 0) := by
  obtain ⟨g, e, hg, hc⟩ := h.2 (by omega)
  have hx : l[i]? = some l[i] := List.getElem?_eq_getElem hi
  exact ⟨g, e, hg, hc i _ hx 0 _ rfl, hc i _ hx 1 _ rfl, hc i _ hx 2 _ rfl, hc i _ hx 3 _ rfl⟩
theorem iflat_at {l : List IVal} {i j : Nat} {x : IVal} {u : Value} (hx : l[i]? = some x) (hu : x.cells[j]? = some u) : (l.flatMap IVal.cells)[i * 4 + j]? = some u := by
  induction l generalizing i with
  | nil => simp at hx
  | cons y l ih =>
    have hj : j < 4 := by have := (List.getElem?_eq_some_iff.1 hu).1; simpa [IVal.cells] using this
    rw [List.flatMap_cons]
    match i with
    | 0 =>
      simp at hx; subst hx
      rw [List.getElem?_append_left (by simp [IVal.cells]; omega)]
      simpa using hu
    | i + 1 =>
      rw [List.getElem?_append_right (by simp [IVal.cells]; omega)]
      have : (i + 1) * 4 + j - y.cells.length = i * 4 + j := by simp [IVal.cells]; omega
      rw [this]
      exact ih (by simpa using hx)
theorem IL.own {w : World} {base : Nat} {e : TypeId} {v : Value} {l : List IVal} (h : w.ownsRow base e 4 v l.length (l.flatMap IVal.cells)) (hl : l.length ≤ 1000000) :
    ∃ A cap, v = .slice A l.length cap ∧ IL w A l := by
  rcases h.2 with ⟨rfl, hn⟩ | ⟨g, cap, cur, rfl, hb, hg, hnc, hcm, hcs, htake⟩
  · exact ⟨none, 0, by rw [hn], hl, fun h => by omega⟩
  · refine ⟨_, cap, rfl, hl, fun _ => ⟨g, rfl, (Array.getElem?_eq_some_iff.1 hg).1, fun i x hx j u hu => ?_⟩⟩
    have := h.cells (g := g) rfl _ _ (iflat_at hx hu)
    rwa [add_zero_off] at this
theorem Tryz.infoIVal : (Tryz.prog.info? 30).map (fun i => (i.zero, i.size, i.bytes)) = some (some (iv 0 0 mt), 4, 56) := by kernel_rfl
theorem Tryz.infoArg : (Tryz.prog.info? 42).map (fun i => (i.zero, i.size, i.bytes)) = some (some (iv 0 0 mt), 4, 56) := by kernel_rfl
end Go.Proofs.YtlhonpmpchkkfaaGreatDoor
namespace Go.Proofs.YtlhonpmpchkkfaaGreatDoor
open Go.RowKit
open Fl
open Ieee (double)
/-- An argument of the package without lists. -/
def fa (ty : Int) (x : Nat) (s e : ByteArray) : Value :=
  .agg #[.string mt, .float .f64 x, .string s, .slice none 0 0, .slice none 0 0, .bool false, .string e, .int .u8 ty, .pointer none, .pointer none]
theorem order_zero {n : Int} (h : n.natAbs < 2 ^ 53) : double.order (fw n) 0 = some (compare n 0) := FI.order (FI.own h) (⟨by decide, false, by decide, fun h => absurd rfl h⟩)
set_option maxRecDepth 100000 in
set_option maxHeartbeats 1000000 in
theorem newNumber_int (n : Int) (w : World) (hn : n.natAbs < 2 ^ 53) :
    Calls Tryz.prog 33 #[.float .f64 (fw n)] w fun e w' => e = .returned (fa 1 (fw n) mt mt) ∧ Fr w w' := by
  have h1 : FloatKind.f64.format.order (fw n) (fw n) = some .eq := not_nan (FI.own hn)
  have h2 : FloatKind.f64.format.order (fw n) 0 = some (compare n 0) := order_zero hn
  by_cases h0 : n = 0
  · subst h0
    have h3 : fw 0 = 0 := by decide
    rw [h3] at *
    go_enter Tryz.func33, Tryz.ntmps33
    go_wp2
    exact bodyPost_ret (v := .agg #[.string mt, .float .f64 0, .string mt, .slice none 0 0, .slice none 0 0, .bool false, .string mt, .int .u8 1, .pointer none, .pointer none]) (by simp [results, Tryz.results33, go_sem, sv, mt, *]) rfl ⟨rfl, (by repeat (first | (with_reducible exact Fr.refl _) | ((with_reducible refine Fr.set ?_ ?_ _); focus (simp; done)) | (with_reducible refine Fr.alloc ?_ _) | (with_reducible refine Fr.drew ?_) | (with_reducible refine Fr.step ?_ (by assumption))))⟩
  · have h3 : (FloatKind.f64.format.order (fw n) 0 == some .eq) = false := by
      rw [h2]; rw [beq_eq_false_iff_ne]; intro h; injection h with h; simp only [compare, compareOfLessAndEq] at h; split at h <;> (try split at h) <;> simp_all
    clear h2 hn
    generalize fw n = x at *
    go_enter Tryz.func33, Tryz.ntmps33
    go_wp2
    exact bodyPost_ret (v := .agg #[.string mt, .float .f64 x, .string mt, .slice none 0 0, .slice none 0 0, .bool false, .string mt, .int .u8 1, .pointer none, .pointer none]) (by simp [results, Tryz.results33, go_sem, sv, mt, *]) rfl ⟨rfl, (by repeat (first | (with_reducible exact Fr.refl _) | ((with_reducible refine Fr.set ?_ ?_ _); focus (simp; done)) | (with_reducible refine Fr.alloc ?_ _) | (with_reducible refine Fr.drew ?_) | (with_reducible refine Fr.step ?_ (by assumption))))⟩
set_option maxRecDepth 100000 in
set_option maxHeartbeats 1000000 in
theorem innerArg_num (n : Int) (w : World) (hn : n.natAbs < 2 ^ 53) :
    Calls Tryz.prog 39 #[iv 1 (fw n) mt] w fun e w' => e = .returned (fa 1 (fw n) mt mt) ∧ Fr w w' := by
  unfold iv
  go_enter Tryz.func39, Tryz.ntmps39
  go_wp2_with fail
  refine (newNumber_int n _ hn).mono ?_
  rintro e w1 ⟨rfl, hf1⟩
  have hlt1 := hf1.size
  simp at hlt1
  obtain ⟨hc1, hz1⟩ := hf1.cells
  simp at hc1 hz1
  have h01 : w.heap.size < w1.heap.size := by omega
  have h03 : w.heap.size + 1 < w1.heap.size := by omega
  unfold fa
  go_wp2
  exact bodyPost_ret (v := .agg #[.string mt, .float .f64 (fw n), .string mt, .slice none 0 0, .slice none 0 0, .bool false, .string mt, .int .u8 1, .pointer none, .pointer none]) (by simp [results, Tryz.results39, go_sem, sv, mt, *]) rfl ⟨rfl, (by repeat (first | (with_reducible exact Fr.refl _) | ((with_reducible refine Fr.set ?_ ?_ _); focus (simp; done)) | (with_reducible refine Fr.alloc ?_ _) | (with_reducible refine Fr.drew ?_) | (with_reducible refine Fr.step ?_ (by assumption))))⟩
end Go.Proofs.YtlhonpmpchkkfaaGreatDoor
