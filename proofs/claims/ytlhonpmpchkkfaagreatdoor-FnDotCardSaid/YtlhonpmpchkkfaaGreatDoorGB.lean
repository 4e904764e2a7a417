import Derived.Test.YtlhonpmpchkkfaaGreatDoorGA
import Derived.Deep.RegionWith
set_option linter.unusedSimpArgs false
set_option linter.unusedVariables false
namespace Go.Proofs.YtlhonpmpchkkfaaGreatDoor
open Go.RowKit

end Go.Proofs.YtlhonpmpchkkfaaGreatDoor
namespace Go.Proofs.YtlhonpmpchkkfaaGreatDoor
open Go.RowKit

end Go.Proofs.YtlhonpmpchkkfaaGreatDoor
namespace Go.Proofs.YtlhonpmpchkkfaaGreatDoor
open Go.RowKit
structure SVal where
  k : Int
  n : Int
  d : Int
  t : ByteArray
def SVal.cells (x : SVal) : List Value := [.int .i64 x.k, .int .i64 x.n, .int .i64 x.d, .string x.t, .slice none 0 0]
/-- A slice of values without rows that can be read. -/
def VL (w : World) (A : Option Addr) (l : List SVal) : Prop :=
  l.length ≤ 1000000 ∧ (0 < l.length → ∃ g, A = some ⟨g, 0, none⟩ ∧ g < w.heap.size ∧ ∀ i x, l[i]? = some x → ∀ j u, x.cells[j]? = some u → w.cell? ⟨g, i * 5 + j, none⟩ = some u)
theorem VL.fr {w w' : World} {A : Option Addr} {l : List SVal} (h : VL w A l) (hf : Fr w w') : VL w' A l :=
  ⟨h.1, fun hn => by
    obtain ⟨g, e, hg, hc⟩ := h.2 hn
    exact ⟨g, e, Nat.lt_of_lt_of_le hg hf.size, fun i x hx j u hu => (hf.cells.1 _ _ hg).trans (hc i x hx j u hu)⟩⟩
theorem VL.at {w : World} {A : Option Addr} {l : List SVal} (h : VL w A l) {i : Nat} (hi : i < l.length) :
    ∃ g, A = some ⟨g, 0, none⟩ ∧ g < w.heap.size ∧ w.cell? ⟨g, i * 5, none⟩ = some (.int .i64 l[i].k) ∧ w.cell? ⟨g, i * 5 + 1, none⟩ = some (.int .i64 l[i].n) ∧
      w.cell? ⟨g, i * 5 + 2, none⟩ = some (.int .i64 l[i].d) ∧ w.cell? ⟨g, i * 5 + 3, none⟩ = some (.string l[i].t) ∧ w.cell? ⟨g, i * 5 + 4, none⟩ = some (.slice none 0 0) := by
  obtain ⟨g, e, hg, hc⟩ := h.2 (by omega)
  have hx : l[i]? = some l[i] := List.getElem?_eq_getElem hi
  exact ⟨g, e, hg, hc i _ hx 0 _ rfl, hc i _ hx 1 _ rfl, hc i _ hx 2 _ rfl, hc i _ hx 3 _ rfl, hc i _ hx 4 _ rfl⟩
end Go.Proofs.YtlhonpmpchkkfaaGreatDoor
namespace Go.Proofs.YtlhonpmpchkkfaaGreatDoor
open Go.RowKit

end Go.Proofs.YtlhonpmpchkkfaaGreatDoor
namespace Go.Proofs.YtlhonpmpchkkfaaGreatDoor
open Go.RowKit
/-- A text as a value. -/
def tx (s : ByteArray) : SVal := ⟨2, 0, 0, s⟩
end Go.Proofs.YtlhonpmpchkkfaaGreatDoor
namespace Go.Proofs.YtlhonpmpchkkfaaGreatDoor
open Go.RowKit
theorem flat_at {l : List SVal} {i j : Nat} {x : SVal} {u : Value} (hx : l[i]? = some x) (hu : x.cells[j]? = some u) : (l.flatMap SVal.cells)[i * 5 + j]? = some u := by
  induction l generalizing i with
  | nil => simp at hx
  | cons y l ih =>
    have hj : j < 5 := by have := (List.getElem?_eq_some_iff.1 hu).1; simpa [SVal.cells] using this
    rw [List.flatMap_cons]
    match i with
    | 0 =>
      simp at hx; subst hx
      rw [List.getElem?_append_left (by simp [SVal.cells]; omega)]
      simpa using hu
    | i + 1 =>
      rw [List.getElem?_append_right (by simp [SVal.cells]; omega)]
      have : (i + 1) * 5 + j - y.cells.length = i * 5 + j := by simp [SVal.cells]; omega
      rw [this]
      exact ih (by simpa using hx)
theorem flat_len (l : List SVal) : (l.flatMap SVal.cells).length = l.length * 5 := by
  induction l with
  | nil => rfl
  | cons y l ih => rw [List.flatMap_cons, List.length_append, ih]; simp [SVal.cells]; omega
theorem add_zero_off (g k : Nat) : (⟨g, 0, none⟩ : Addr).add k = ⟨g, k, none⟩ := by
  unfold Addr.add
  split
  · rename_i h; have : k = 0 := by simpa using h
    subst this; rfl
  · simp
theorem VL.own {w : World} {base : Nat} {e : TypeId} {v : Value} {l : List SVal} (h : w.ownsRow base e 5 v l.length (l.flatMap SVal.cells)) (hl : l.length ≤ 1000000) :
    ∃ A cap, v = .slice A l.length cap ∧ VL w A l := by
  rcases h.2 with ⟨rfl, hn⟩ | ⟨g, cap, cur, rfl, hb, hg, hnc, hcm, hcs, htake⟩
  · exact ⟨none, 0, by rw [hn], hl, fun h => by omega⟩
  · refine ⟨_, cap, rfl, hl, fun _ => ⟨g, rfl, (Array.getElem?_eq_some_iff.1 hg).1, fun i x hx j u hu => ?_⟩⟩
    have := h.cells (g := g) rfl _ _ (flat_at hx hu)
    rwa [add_zero_off] at this
/-- What a value's five cells lie as. -/
theorem cells_new (w : World) (x : SVal) (t : TypeId) : ∀ j u, x.cells[j]? = some u → (w.alloc (.cells #[.int .i64 x.k, .int .i64 x.n, .int .i64 x.d, .string x.t, .slice none 0 0] t)).cell? ((⟨w.heap.size, 0, none⟩ : Addr).add j) = some u := by
  intro j u hu
  have hj : j < 5 := by have := (List.getElem?_eq_some_iff.1 hu).1; simpa [SVal.cells] using this
  match j, hj, hu with
  | 0, _, hu => simp [SVal.cells] at hu; subst hu; simp [Addr.add, go_sem]
  | 1, _, hu => simp [SVal.cells] at hu; subst hu; simp [Addr.add, go_sem]
  | 2, _, hu => simp [SVal.cells] at hu; subst hu; simp [Addr.add, go_sem]
  | 3, _, hu => simp [SVal.cells] at hu; subst hu; simp [Addr.add, go_sem]
  | 4, _, hu => simp [SVal.cells] at hu; subst hu; simp [Addr.add, go_sem]
end Go.Proofs.YtlhonpmpchkkfaaGreatDoor
namespace Go.Proofs.YtlhonpmpchkkfaaGreatDoor
open Go.RowKit
/-- A slice of texts that can be read. -/
def TL (w : World) (A : Option Addr) (l : List ByteArray) : Prop :=
  l.length ≤ 1000000 ∧ (0 < l.length → ∃ g, A = some ⟨g, 0, none⟩ ∧ g < w.heap.size ∧ ∀ i x, l[i]? = some x → w.cell? ⟨g, i, none⟩ = some (.string x))
theorem TL.fr {w w' : World} {A : Option Addr} {l : List ByteArray} (h : TL w A l) (hf : Fr w w') : TL w' A l :=
  ⟨h.1, fun hn => by
    obtain ⟨g, e, hg, hc⟩ := h.2 hn
    exact ⟨g, e, Nat.lt_of_lt_of_le hg hf.size, fun i x hx => (hf.cells.1 _ _ hg).trans (hc i x hx)⟩⟩
theorem TL.at {w : World} {A : Option Addr} {l : List ByteArray} (h : TL w A l) {i : Nat} (hi : i < l.length) :
    ∃ g, A = some ⟨g, 0, none⟩ ∧ g < w.heap.size ∧ w.cell? ⟨g, i, none⟩ = some (.string l[i]) := by
  obtain ⟨g, e, hg, hc⟩ := h.2 (by omega)
  exact ⟨g, e, hg, hc i _ (List.getElem?_eq_getElem hi)⟩
/-- Texts as cells. -/
def strs (l : List ByteArray) : List Value := l.map Value.string
theorem TL.own {w : World} {base : Nat} {e : TypeId} {v : Value} {l : List ByteArray} (h : w.ownsRow base e 1 v l.length (strs l)) (hl : l.length ≤ 1000000) :
    ∃ A cap, v = .slice A l.length cap ∧ TL w A l := by
  rcases h.2 with ⟨rfl, hn⟩ | ⟨g, cap, cur, rfl, hb, hg, hnc, hcm, hcs, htake⟩
  · exact ⟨none, 0, by rw [hn], hl, fun h => by omega⟩
  · refine ⟨_, cap, rfl, hl, fun _ => ⟨g, rfl, (Array.getElem?_eq_some_iff.1 hg).1, fun i x hx => ?_⟩⟩
    have := h.cells (g := g) rfl i (.string x) (by simp [strs, hx])
    rwa [add_zero_off] at this
theorem TL.of {w : World} {base : Nat} {e : TypeId} {A : Option Addr} {n cap : Nat} {l : List ByteArray} (h : w.ownsRow base e 1 (.slice A n cap) l.length (strs l)) (hl : l.length ≤ 1000000) : TL w A l := by
  obtain ⟨A', cap', hA, hT⟩ := TL.own h hl
  injection hA with h1 _ _
  rw [h1]; exact hT
end Go.Proofs.YtlhonpmpchkkfaaGreatDoor
