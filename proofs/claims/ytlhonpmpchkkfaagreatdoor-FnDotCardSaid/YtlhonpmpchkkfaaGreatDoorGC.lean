import Derived.Test.YtlhonpmpchkkfaaGreatDoorGB
set_option linter.unusedSimpArgs false
set_option linter.unusedVariables false
namespace Go.Proofs.YtlhonpmpchkkfaaGreatDoor
open Go.RowKit
theorem own_fr {w w' : World} {base : Nat} {e : TypeId} {sz : Nat} {v : Value} {n : Nat} {xs : List Value} (h : w.ownsRow base e sz v n xs) (hf : Fr w w') : w'.ownsRow base e sz v n xs := by
  refine ⟨h.1, ?_⟩
  rcases h.2 with ⟨rfl, hn⟩ | ⟨g, cap, cur, rfl, hb, hg, hnc, hcm, hcs, htake⟩
  · exact .inl ⟨rfl, hn⟩
  · exact .inr ⟨g, cap, cur, rfl, hb, (hf.block g (Array.getElem?_eq_some_iff.1 hg).1).trans hg, hnc, hcm, hcs, htake⟩
end Go.Proofs.YtlhonpmpchkkfaaGreatDoor
namespace Go.Proofs.YtlhonpmpchkkfaaGreatDoor
open Go.RowKit

end Go.Proofs.YtlhonpmpchkkfaaGreatDoor
namespace Go.Proofs.YtlhonpmpchkkfaaGreatDoor
open Go.RowKit

end Go.Proofs.YtlhonpmpchkkfaaGreatDoor
namespace Go.Proofs.YtlhonpmpchkkfaaGreatDoor
open Go.RowKit

end Go.Proofs.YtlhonpmpchkkfaaGreatDoor
namespace Go.Proofs.YtlhonpmpchkkfaaGreatDoor
open Go.RowKit
theorem VL.one (w : World) (x : SVal) (t : TypeId) : VL (w.alloc (.cells #[.int .i64 x.k, .int .i64 x.n, .int .i64 x.d, .string x.t, .slice none 0 0] t)) (some ⟨w.heap.size, 0, none⟩) [x] := by
  refine ⟨by simp, fun _ => ⟨w.heap.size, rfl, by simp, fun i y hy j u hu => ?_⟩⟩
  have hi : i = 0 := by have := (List.getElem?_eq_some_iff.1 hy).1; simp at this; exact this
  subst hi
  simp at hy; subst hy
  have := cells_new w x t j u hu
  rw [add_zero_off] at this
  simpa using this
theorem VL.cells {w : World} {g : Nat} {l : List SVal} (h : VL w (some ⟨g, 0, none⟩) l) : ∀ j u, (l.flatMap SVal.cells)[j]? = some u → w.cell? ((⟨g, 0, none⟩ : Addr).add j) = some u := by
  intro j u hu
  have hj : j < l.length * 5 := by have := (List.getElem?_eq_some_iff.1 hu).1; rwa [flat_len] at this
  have hi : j / 5 < l.length := by omega
  obtain ⟨g', e, hg, hc⟩ := h.2 (by omega)
  injection e with e; injection e with e; subst e
  rw [add_zero_off]
  have hx : l[j / 5]? = some l[j / 5] := List.getElem?_eq_getElem hi
  have hlen : (l[j / 5]).cells.length = 5 := rfl
  have hu2 : (l[j / 5]).cells[j % 5]? = some ((l[j / 5]).cells[j % 5]'(by rw [hlen]; omega)) := List.getElem?_eq_getElem _
  have h1 := flat_at hx hu2
  have h2 := hc _ _ hx _ _ hu2
  have hjj : j / 5 * 5 + j % 5 = j := by omega
  rw [hjj] at h1 h2
  rw [h2, ← h1, hu]
theorem VL.new (w : World) (x : SVal) (t : TypeId) (g : Nat) (hg : g = w.heap.size) : VL (w.alloc (.cells #[.int .i64 x.k, .int .i64 x.n, .int .i64 x.d, .string x.t, .slice none 0 0] t)) (some ⟨g, 0, none⟩) [x] := by
  subst hg; exact VL.one w x t
end Go.Proofs.YtlhonpmpchkkfaaGreatDoor
namespace Go.Proofs.YtlhonpmpchkkfaaGreatDoor
open Go.RowKit
set_option maxRecDepth 100000 in
set_option maxHeartbeats 400000 in
theorem Table_any (A : Option Addr) (n c : Nat) (w : World) :
    Calls Tryz.prog 12 #[.slice A n c] w fun e w' => e = .returned (.agg #[.int .i64 5, .int .i64 0, .int .i64 0, .string mt, .slice A n c]) ∧ Fr w w' := by
  go_enter Tryz.func12, Tryz.ntmps12
  go_wp2
  exact bodyPost_ret (v := .agg #[.int .i64 5, .int .i64 0, .int .i64 0, .string mt, .slice A n c]) (by simp [results, Tryz.results12, go_sem, sv, mt, *]) rfl ⟨rfl, (by repeat (first | (with_reducible exact Fr.refl _) | ((with_reducible refine Fr.set ?_ ?_ _); focus (simp; done)) | (with_reducible refine Fr.alloc ?_ _) | (with_reducible refine Fr.drew ?_) | (with_reducible refine Fr.step ?_ (by assumption))))⟩
end Go.Proofs.YtlhonpmpchkkfaaGreatDoor
