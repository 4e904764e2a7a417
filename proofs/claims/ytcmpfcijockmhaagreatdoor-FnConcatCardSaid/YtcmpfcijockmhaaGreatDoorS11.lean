import Derived.Test.YtcmpfcijockmhaaGreatDoorS10
set_option linter.unusedSimpArgs false
set_option linter.unusedVariables false
namespace Go.Proofs.YtcmpfcijockmhaaGreatDoor
open Go.RowKit
theorem flat_at {l : List SVal} {i j : Nat} {x : SVal} {u : Value} (hx : l[i]? = some x) (hu : x.cells[j]? = some u) : (l.flatMap SVal.cells)[i * 5 + j]? = some u := by
  induction l generalizing i with
  | nil => simp at hx
  | cons y l ih =>
    have hj : j < 5 := by have := (List.getElem?_eq_some_iff.1 hu).1; simpa [SVal.cells] using this
    rw [List.flatMap_cons]
    match i with
    | 0 =>
      simp at hx; subst hx
      rw [List.getElem?_append_left (by simp [SVal.cells]; omega)]
      simpa using hu
    | i + 1 =>
      rw [List.getElem?_append_right (by simp [SVal.cells]; omega)]
      have : (i + 1) * 5 + j - y.cells.length = i * 5 + j := by simp [SVal.cells]; omega
      rw [this]
      exact ih (by simpa using hx)
theorem flat_len (l : List SVal) : (l.flatMap SVal.cells).length = l.length * 5 := by
  induction l with
  | nil => rfl
  | cons y l ih => rw [List.flatMap_cons, List.length_append, ih]; simp [SVal.cells]; omega
theorem add_zero_off (g k : Nat) : (⟨g, 0, none⟩ : Addr).add k = ⟨g, k, none⟩ := by
  unfold Addr.add
  split
  · rename_i h; have : k = 0 := by simpa using h
    subst this; rfl
  · simp
theorem VL.own {w : World} {base : Nat} {e : TypeId} {v : Value} {l : List SVal} (h : w.ownsRow base e 5 v l.length (l.flatMap SVal.cells)) (hl : l.length ≤ 1000000) :
    ∃ A cap, v = .slice A l.length cap ∧ VL w A l := by
  rcases h.2 with ⟨rfl, hn⟩ | ⟨g, cap, cur, rfl, hb, hg, hnc, hcm, hcs, htake⟩
  · exact ⟨none, 0, by rw [hn], hl, fun h => by omega⟩
  · refine ⟨_, cap, rfl, hl, fun _ => ⟨g, rfl, (Array.getElem?_eq_some_iff.1 hg).1, fun i x hx j u hu => ?_⟩⟩
    have := h.cells (g := g) rfl _ _ (flat_at hx hu)
    rwa [add_zero_off] at this
theorem take_step {l : List SVal} {k : Nat} (hk : k < l.length) : (l.take (k + 1)).flatMap SVal.cells = (l.take k).flatMap SVal.cells ++ l[k].cells := by
  rw [List.take_succ_eq_append_getElem hk, List.flatMap_append]; simp
theorem Tryz.infoVal : (Tryz.prog.info? 27).map (fun i => (i.zero, i.size, i.bytes)) = some (some (sv 0 0 0 mt), 5, 64) := by kernel_rfl
/-- What a value's five cells lie as. -/
theorem cells_new (w : World) (x : SVal) (t : TypeId) : ∀ j u, x.cells[j]? = some u → (w.alloc (.cells #[.int .i64 x.k, .int .i64 x.n, .int .i64 x.d, .string x.t, .slice none 0 0] t)).cell? ((⟨w.heap.size, 0, none⟩ : Addr).add j) = some u := by
  intro j u hu
  have hj : j < 5 := by have := (List.getElem?_eq_some_iff.1 hu).1; simpa [SVal.cells] using this
  match j, hj, hu with
  | 0, _, hu => simp [SVal.cells] at hu; subst hu; simp [Addr.add, go_sem]
  | 1, _, hu => simp [SVal.cells] at hu; subst hu; simp [Addr.add, go_sem]
  | 2, _, hu => simp [SVal.cells] at hu; subst hu; simp [Addr.add, go_sem]
  | 3, _, hu => simp [SVal.cells] at hu; subst hu; simp [Addr.add, go_sem]
  | 4, _, hu => simp [SVal.cells] at hu; subst hu; simp [Addr.add, go_sem]
theorem one_cells (x : SVal) : ∀ u ∈ x.cells, u.oneCell' = true := by
  intro u hu; simp [SVal.cells] at hu; rcases hu with rfl | rfl | rfl | rfl | rfl <;> rfl
set_option maxRecDepth 100000 in
set_option maxHeartbeats 2000000 in
theorem Flat_flat (A : Option Addr) (cap : Nat) (l : List SVal) (w : World) (hv : VL w A l) (hk5 : ∀ x ∈ l, x.k ≠ 5) :
    Calls Tryz.prog 30 #[.slice A l.length cap] w fun e w' => ∃ A' cap', e = .returned (.slice A' l.length cap') ∧ VL w' A' l ∧ Fr w w' := by
  have hl := hv.1
  have Hv := Lib.hid hv; clear hv
  have HF := Lib.hid hk5; clear hk5
  obtain ⟨i0, hi, hz0, hz1, hz2⟩ := info_parts Tryz.infoVal
  obtain ⟨n, hn⟩ : ∃ n, n = l.length := ⟨_, rfl⟩
  rw [← hn] at hl ⊢
  have Hn := Lib.hid hn; clear hn
  go_enter Tryz.func30, Tryz.ntmps30
  go_wp2
  go_loopw [3, 4] (fun v i wr => ∃ k : Nat, k ≤ n ∧ i = .int .i64 k ∧ wr.ownsRow w.heap.size 27 5 v k ((l.take k).flatMap SVal.cells) ∧ Fr w wr) (fun _ i _ => n - (intOf i).toNat)
  case atStart => exact ⟨0, Nat.zero_le _, rfl, by simpa using World.ownsRow_nil _ _ _ _, Fr.refl _⟩
  case round =>
    obtain ⟨k, hk, rfl, hown, hf⟩ := hrel
    by_cases hlt : k < n
    · have hkl : k < l.length := by rw [← Hn.out]; exact hlt
      obtain ⟨g, rfl, hg, c0, c1, c2, c3, c4⟩ := (Hv.out.fr hf).at hkl
      have hH : l[k].k ≠ 5 := HF.out l[k] (List.getElem_mem hkl)
      have hts := Lib.hid (take_step hkl)
      generalize hx : l[k] = x at *
      go_wp2_with (at_builtin; refine wpList_append_own _ rfl _ _ 29 rfl w.heap.size 27 i0 (sv 0 0 0 mt) 5 64 Tryz.underlying29 hi hz0 hz1 hz2 rfl (by decide) _ _ _ rfl (hown.alloc _) ⟨wr.heap.size, 0, none⟩ 1 1 x.cells rfl rfl (cells_new _ x _) (one_cells x) (by simp only [maxLen]; omega) (by omega) (by have := hf.size; simp; omega) ?_)
      intro v' w1 hown1 hgrow _
      rw [← hts.out] at hown1
      have hf1 : Fr w w1 := (hf.alloc _).grown hgrow (fun k hk => (hown.lt k hk).1)
      clear hown hgrow hf c0 c1 c2 c3 c4
      go_wp2
      go_roundw
      case rel => exact ⟨k + 1, by omega, by simp, hown1, hf1⟩
      case measure => simp [intOf]; omega
    · have hkn : k = n := by omega
      subst hkn
      have hls : (l.take k).flatMap SVal.cells = l.flatMap SVal.cells := by rw [Hn.out, List.take_length]
      rw [hls] at hown
      obtain ⟨A', cap', hA, hV⟩ := VL.own (l := l) (by rw [← Hn.out]; exact hown) (by rw [← Hn.out]; exact hl)
      rw [← Hn.out] at hA
      subst hA
      clear hown hls
      have hV' := Lib.hid hV; clear hV
      go_wp2
      go_ret
      exact ⟨A', cap', rfl, hV'.out, hf⟩
end Go.Proofs.YtcmpfcijockmhaaGreatDoor
