import Derived.Test.YtnpnclhjfemldaaGreatDoorW7
import Derived.Laws.OwnMore
set_option linter.unusedSimpArgs false
set_option linter.unusedVariables false
/- The law FnSwitch: its arguments laid in a row, then agrees. -/
namespace Go.Proofs.YtnpnclhjfemldaaGreatDoor
open Go.RowKit
open Fl
open Ieee (double)
/-- A slice of whole numbers that came in. -/
def ZA (w : World) (A : Option Addr) (l : List Int) : Prop :=
  0 < l.length → ∃ g o, A = some ⟨g, o, none⟩ ∧ g < w.heap.size ∧ ∀ i x, l[i]? = some x → w.cell? ⟨g, o + i, none⟩ = some (.int .i64 x)
theorem ZA.fr {w w' : World} {A : Option Addr} {l : List Int} (h : ZA w A l) (hf : Fr w w') : ZA w' A l := fun hn => by
  obtain ⟨g, o, e, hg, hc⟩ := h hn
  exact ⟨g, o, e, Nat.lt_of_lt_of_le hg hf.size, fun i x hx => (hf.cells.1 _ _ hg).trans (hc i x hx)⟩
theorem ZA.at {w : World} {A : Option Addr} {l : List Int} (h : ZA w A l) {i : Nat} (hi : i < l.length) :
    ∃ g o, A = some ⟨g, o, none⟩ ∧ g < w.heap.size ∧ w.cell? ⟨g, o + i, none⟩ = some (.int .i64 (l.getD i 0)) := by
  obtain ⟨g, o, e, hg, hc⟩ := h (by omega)
  refine ⟨g, o, e, hg, hc i _ ?_⟩
  rw [List.getD_eq_getElem?_getD, List.getElem?_eq_getElem hi]; rfl
/-- The arguments behind k pairs. -/
def swA (n : Int) (ks ls : List Int) : Nat → List Int
  | 0 => [n]
  | k + 1 => swA n ks ls k ++ [ks.getD k 0, ls.getD k 0]
theorem swA_len (n : Int) (ks ls : List Int) : ∀ k, (swA n ks ls k).length = 1 + 2 * k
  | 0 => rfl
  | k + 1 => by rw [swA, List.length_append, swA_len n ks ls k]; simp; omega
def swC (a : List Int) : List Value := (a.map argV).flatMap SVal.cells
theorem swC_two (n : Int) (ks ls : List Int) (k : Nat) : swC (swA n ks ls (k + 1)) = swC (swA n ks ls k) ++ ((argV (ks.getD k 0)).cells ++ (argV (ls.getD k 0)).cells) := by
  unfold swC
  rw [swA, List.map_append, List.flatMap_append]; simp
theorem swC_one (a : List Int) (x : Int) : swC (a ++ [x]) = swC a ++ (argV x).cells := by
  unfold swC
  rw [List.map_append, List.flatMap_append]; simp
theorem swC_head (n : Int) : swC [n] = (argV n).cells := by unfold swC; simp
theorem VL.sw {w : World} {base : Nat} {e : TypeId} {v : Value} {a : List Int} {m : Nat} (h : w.ownsRow base e 5 v m (swC a)) (hm : m = a.length) (h3 : a.length ≤ 1000000) :
    ∃ A cap, v = .slice A a.length cap ∧ VL w A (a.map argV) := by
  subst hm
  have := VL.own (l := a.map argV) (by rw [List.length_map]; exact h) (by rw [List.length_map]; exact h3)
  rwa [List.length_map] at this
theorem cells_two (w : World) (x y : SVal) (t : TypeId) : ∀ j u, (x.cells ++ y.cells)[j]? = some u →
    (w.alloc (.cells #[.int .i64 x.k, .int .i64 x.n, .int .i64 x.d, .string x.t, .slice none 0 0, .int .i64 y.k, .int .i64 y.n, .int .i64 y.d, .string y.t, .slice none 0 0] t)).cell? ((⟨w.heap.size, 0, none⟩ : Addr).add j) = some u := by
  intro j u hu
  have hj : j < 10 := by have := (List.getElem?_eq_some_iff.1 hu).1; simpa [SVal.cells] using this
  match j, hj, hu with
  | 0, _, hu => simp [SVal.cells] at hu; subst hu; simp [Addr.add, go_sem]
  | 1, _, hu => simp [SVal.cells] at hu; subst hu; simp [Addr.add, go_sem]
  | 2, _, hu => simp [SVal.cells] at hu; subst hu; simp [Addr.add, go_sem]
  | 3, _, hu => simp [SVal.cells] at hu; subst hu; simp [Addr.add, go_sem]
  | 4, _, hu => simp [SVal.cells] at hu; subst hu; simp [Addr.add, go_sem]
  | 5, _, hu => simp [SVal.cells] at hu; subst hu; simp [Addr.add, go_sem]
  | 6, _, hu => simp [SVal.cells] at hu; subst hu; simp [Addr.add, go_sem]
  | 7, _, hu => simp [SVal.cells] at hu; subst hu; simp [Addr.add, go_sem]
  | 8, _, hu => simp [SVal.cells] at hu; subst hu; simp [Addr.add, go_sem]
  | 9, _, hu => simp [SVal.cells] at hu; subst hu; simp [Addr.add, go_sem]
theorem two_cells (x y : SVal) : ∀ u ∈ x.cells ++ y.cells, u.oneCell' = true := by
  intro u hu
  rcases List.mem_append.1 hu with h | h
  · exact one_cells x u h
  · exact one_cells y u h
set_option maxRecDepth 100000 in
set_option maxHeartbeats 1000000 in
theorem argWhole_any (n : Int) (w : World) :
    Calls Tryz.prog 4 #[.int .i64 n] w fun e w' => e = .returned (argV n).v ∧ Fr w w' := by
  have hiv := intV_arg n
  obtain ⟨x, hx⟩ : ∃ x, x = argV n := ⟨_, rfl⟩
  rw [← hx] at hiv ⊢
  clear hx
  obtain ⟨k, a, d, t⟩ := x
  have Hiv := Lib.hid hiv; clear hiv
  go_enter Tryz.func4, Tryz.ntmps4
  go_wp2_with fail
  refine (Int_any n _).mono ?_
  rintro e w1 ⟨rfl, hf1⟩
  rw [Hiv.out]
  have hlt1 := hf1.size
  (try simp at hlt1)
  obtain ⟨hc1, hz1⟩ := hf1.cells
  (try simp at hc1); (try simp at hz1)
  have h01 : w.heap.size < w1.heap.size + 1 := by omega
  unfold SVal.v sv
  go_wp2
  exact bodyPost_ret (v := sv k a d t) (by simp [results, Tryz.results4, go_sem, sv, mt, *]) rfl ⟨rfl, (by repeat (first | (with_reducible exact Fr.refl _) | ((with_reducible refine Fr.set ?_ ?_ _); focus (simp; done)) | (with_reducible refine Fr.alloc ?_ _) | (with_reducible refine Fr.drew ?_) | (with_reducible refine Fr.step ?_ (by assumption))))⟩
theorem argWhole_of (n : Int) (x : SVal) (hx : argV n = x) (w : World) :
    Calls Tryz.prog 4 #[.int .i64 n] w fun e w' => e = .returned (.agg #[.int .i64 x.k, .int .i64 x.n, .int .i64 x.d, .string x.t, .slice none 0 0]) ∧ Fr w w' := by
  subst hx; exact argWhole_any n w
end Go.Proofs.YtnpnclhjfemldaaGreatDoor
