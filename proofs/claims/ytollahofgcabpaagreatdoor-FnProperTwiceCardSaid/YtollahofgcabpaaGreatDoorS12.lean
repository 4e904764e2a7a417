import Derived.Test.YtollahofgcabpaaGreatDoorS11
set_option linter.unusedSimpArgs false
set_option linter.unusedVariables false
namespace Go.Proofs.YtollahofgcabpaaGreatDoor
open Go.RowKit
/-- A slice of texts that can be read. -/
def TL (w : World) (A : Option Addr) (l : List ByteArray) : Prop :=
  l.length ≤ 1000000 ∧ (0 < l.length → ∃ g, A = some ⟨g, 0, none⟩ ∧ g < w.heap.size ∧ ∀ i x, l[i]? = some x → w.cell? ⟨g, i, none⟩ = some (.string x))
theorem TL.fr {w w' : World} {A : Option Addr} {l : List ByteArray} (h : TL w A l) (hf : Fr w w') : TL w' A l :=
  ⟨h.1, fun hn => by
    obtain ⟨g, e, hg, hc⟩ := h.2 hn
    exact ⟨g, e, Nat.lt_of_lt_of_le hg hf.size, fun i x hx => (hf.cells.1 _ _ hg).trans (hc i x hx)⟩⟩
theorem TL.at {w : World} {A : Option Addr} {l : List ByteArray} (h : TL w A l) {i : Nat} (hi : i < l.length) :
    ∃ g, A = some ⟨g, 0, none⟩ ∧ g < w.heap.size ∧ w.cell? ⟨g, i, none⟩ = some (.string l[i]) := by
  obtain ⟨g, e, hg, hc⟩ := h.2 (by omega)
  exact ⟨g, e, hg, hc i _ (List.getElem?_eq_getElem hi)⟩
/-- Texts as cells. -/
def strs (l : List ByteArray) : List Value := l.map Value.string
theorem TL.own {w : World} {base : Nat} {e : TypeId} {v : Value} {l : List ByteArray} (h : w.ownsRow base e 1 v l.length (strs l)) (hl : l.length ≤ 1000000) :
    ∃ A cap, v = .slice A l.length cap ∧ TL w A l := by
  rcases h.2 with ⟨rfl, hn⟩ | ⟨g, cap, cur, rfl, hb, hg, hnc, hcm, hcs, htake⟩
  · exact ⟨none, 0, by rw [hn], hl, fun h => by omega⟩
  · refine ⟨_, cap, rfl, hl, fun _ => ⟨g, rfl, (Array.getElem?_eq_some_iff.1 hg).1, fun i x hx => ?_⟩⟩
    have := h.cells (g := g) rfl i (.string x) (by simp [strs, hx])
    rwa [add_zero_off] at this
theorem TL.of {w : World} {base : Nat} {e : TypeId} {A : Option Addr} {n cap : Nat} {l : List ByteArray} (h : w.ownsRow base e 1 (.slice A n cap) l.length (strs l)) (hl : l.length ≤ 1000000) : TL w A l := by
  obtain ⟨A', cap', hA, hT⟩ := TL.own h hl
  injection hA with h1 _ _
  rw [h1]; exact hT
end Go.Proofs.YtollahofgcabpaaGreatDoor
