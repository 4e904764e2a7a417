import Derived.Test.YtollahofgcabpaaGreatDoorS12
set_option linter.unusedSimpArgs false
set_option linter.unusedVariables false
namespace Go.Proofs.YtollahofgcabpaaGreatDoor
open Go.RowKit
theorem own_fr {w w' : World} {base : Nat} {e : TypeId} {sz : Nat} {v : Value} {n : Nat} {xs : List Value} (h : w.ownsRow base e sz v n xs) (hf : Fr w w') : w'.ownsRow base e sz v n xs := by
  refine ⟨h.1, ?_⟩
  rcases h.2 with ⟨rfl, hn⟩ | ⟨g, cap, cur, rfl, hb, hg, hnc, hcm, hcs, htake⟩
  · exact .inl ⟨rfl, hn⟩
  · exact .inr ⟨g, cap, cur, rfl, hb, (hf.block g (Array.getElem?_eq_some_iff.1 hg).1).trans hg, hnc, hcm, hcs, htake⟩
end Go.Proofs.YtollahofgcabpaaGreatDoor
