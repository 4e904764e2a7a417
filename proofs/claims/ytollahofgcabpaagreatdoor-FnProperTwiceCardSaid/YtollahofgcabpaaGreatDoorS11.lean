import Derived.Test.YtollahofgcabpaaGreatDoorS10
set_option linter.unusedSimpArgs false
set_option linter.unusedVariables false
namespace Go.Proofs.YtollahofgcabpaaGreatDoor
open Go.RowKit
theorem flat_at {l : List SVal} {i j : Nat} {x : SVal} {u : Value} (hx : l[i]? = some x) (hu : x.cells[j]? = some u) : (l.flatMap SVal.cells)[i * 5 + j]? = some u := by
  induction l generalizing i with
  | nil => simp at hx
  | cons y l ih =>
    have hj : j < 5 := by have := (List.getElem?_eq_some_iff.1 hu).1; simpa [SVal.cells] using this
    rw [List.flatMap_cons]
    match i with
    | 0 =>
      simp at hx; subst hx
      rw [List.getElem?_append_left (by simp [SVal.cells]; omega)]
      simpa using hu
    | i + 1 =>
      rw [List.getElem?_append_right (by simp [SVal.cells]; omega)]
      have : (i + 1) * 5 + j - y.cells.length = i * 5 + j := by simp [SVal.cells]; omega
      rw [this]
      exact ih (by simpa using hx)
theorem flat_len (l : List SVal) : (l.flatMap SVal.cells).length = l.length * 5 := by
  induction l with
  | nil => rfl
  | cons y l ih => rw [List.flatMap_cons, List.length_append, ih]; simp [SVal.cells]; omega
theorem add_zero_off (g k : Nat) : (⟨g, 0, none⟩ : Addr).add k = ⟨g, k, none⟩ := by
  unfold Addr.add
  split
  · rename_i h; have : k = 0 := by simpa using h
    subst this; rfl
  · simp
theorem VL.own {w : World} {base : Nat} {e : TypeId} {v : Value} {l : List SVal} (h : w.ownsRow base e 5 v l.length (l.flatMap SVal.cells)) (hl : l.length ≤ 1000000) :
    ∃ A cap, v = .slice A l.length cap ∧ VL w A l := by
  rcases h.2 with ⟨rfl, hn⟩ | ⟨g, cap, cur, rfl, hb, hg, hnc, hcm, hcs, htake⟩
  · exact ⟨none, 0, by rw [hn], hl, fun h => by omega⟩
  · refine ⟨_, cap, rfl, hl, fun _ => ⟨g, rfl, (Array.getElem?_eq_some_iff.1 hg).1, fun i x hx j u hu => ?_⟩⟩
    have := h.cells (g := g) rfl _ _ (flat_at hx hu)
    rwa [add_zero_off] at this
/-- What a value's five cells lie as. -/
theorem cells_new (w : World) (x : SVal) (t : TypeId) : ∀ j u, x.cells[j]? = some u → (w.alloc (.cells #[.int .i64 x.k, .int .i64 x.n, .int .i64 x.d, .string x.t, .slice none 0 0] t)).cell? ((⟨w.heap.size, 0, none⟩ : Addr).add j) = some u := by
  intro j u hu
  have hj : j < 5 := by have := (List.getElem?_eq_some_iff.1 hu).1; simpa [SVal.cells] using this
  match j, hj, hu with
  | 0, _, hu => simp [SVal.cells] at hu; subst hu; simp [Addr.add, go_sem]
  | 1, _, hu => simp [SVal.cells] at hu; subst hu; simp [Addr.add, go_sem]
  | 2, _, hu => simp [SVal.cells] at hu; subst hu; simp [Addr.add, go_sem]
  | 3, _, hu => simp [SVal.cells] at hu; subst hu; simp [Addr.add, go_sem]
  | 4, _, hu => simp [SVal.cells] at hu; subst hu; simp [Addr.add, go_sem]
end Go.Proofs.YtollahofgcabpaaGreatDoor
