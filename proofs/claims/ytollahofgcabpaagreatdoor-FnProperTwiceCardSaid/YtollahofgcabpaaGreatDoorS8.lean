import Derived.Test.YtollahofgcabpaaGreatDoorS7
set_option linter.unusedSimpArgs false
set_option linter.unusedVariables false
namespace Go.Proofs.YtollahofgcabpaaGreatDoor
open Go.RowKit
structure SVal where
  k : Int
  n : Int
  d : Int
  t : ByteArray
def SVal.v (x : SVal) : Value := sv x.k x.n x.d x.t
def SVal.cells (x : SVal) : List Value := [.int .i64 x.k, .int .i64 x.n, .int .i64 x.d, .string x.t, .slice none 0 0]
/-- A slice of values without rows that can be read. -/
def VL (w : World) (A : Option Addr) (l : List SVal) : Prop :=
  l.length ≤ 1000000 ∧ (0 < l.length → ∃ g, A = some ⟨g, 0, none⟩ ∧ g < w.heap.size ∧ ∀ i x, l[i]? = some x → ∀ j u, x.cells[j]? = some u → w.cell? ⟨g, i * 5 + j, none⟩ = some u)
theorem VL.fr {w w' : World} {A : Option Addr} {l : List SVal} (h : VL w A l) (hf : Fr w w') : VL w' A l :=
  ⟨h.1, fun hn => by
    obtain ⟨g, e, hg, hc⟩ := h.2 hn
    exact ⟨g, e, Nat.lt_of_lt_of_le hg hf.size, fun i x hx j u hu => (hf.cells.1 _ _ hg).trans (hc i x hx j u hu)⟩⟩
theorem VL.at {w : World} {A : Option Addr} {l : List SVal} (h : VL w A l) {i : Nat} (hi : i < l.length) :
    ∃ g, A = some ⟨g, 0, none⟩ ∧ g < w.heap.size ∧ w.cell? ⟨g, i * 5, none⟩ = some (.int .i64 l[i].k) ∧ w.cell? ⟨g, i * 5 + 1, none⟩ = some (.int .i64 l[i].n) ∧
      w.cell? ⟨g, i * 5 + 2, none⟩ = some (.int .i64 l[i].d) ∧ w.cell? ⟨g, i * 5 + 3, none⟩ = some (.string l[i].t) ∧ w.cell? ⟨g, i * 5 + 4, none⟩ = some (.slice none 0 0) := by
  obtain ⟨g, e, hg, hc⟩ := h.2 (by omega)
  have hx : l[i]? = some l[i] := List.getElem?_eq_getElem hi
  exact ⟨g, e, hg, hc i _ hx 0 _ rfl, hc i _ hx 1 _ rfl, hc i _ hx 2 _ rfl, hc i _ hx 3 _ rfl, hc i _ hx 4 _ rfl⟩
end Go.Proofs.YtollahofgcabpaaGreatDoor
