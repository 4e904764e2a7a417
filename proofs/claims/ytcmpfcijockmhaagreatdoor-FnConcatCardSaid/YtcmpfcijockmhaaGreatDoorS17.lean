import Derived.Test.YtcmpfcijockmhaaGreatDoorS16
set_option linter.unusedSimpArgs false
set_option linter.unusedVariables false
namespace Go.Proofs.YtcmpfcijockmhaaGreatDoor
open Go.RowKit
theorem VL.one (w : World) (x : SVal) (t : TypeId) : VL (w.alloc (.cells #[.int .i64 x.k, .int .i64 x.n, .int .i64 x.d, .string x.t, .slice none 0 0] t)) (some ⟨w.heap.size, 0, none⟩) [x] := by
  refine ⟨by simp, fun _ => ⟨w.heap.size, rfl, by simp, fun i y hy j u hu => ?_⟩⟩
  have hi : i = 0 := by have := (List.getElem?_eq_some_iff.1 hy).1; simp at this; exact this
  subst hi
  simp at hy; subst hy
  have := cells_new w x t j u hu
  rw [add_zero_off] at this
  simpa using this
theorem VL.cells {w : World} {g : Nat} {l : List SVal} (h : VL w (some ⟨g, 0, none⟩) l) : ∀ j u, (l.flatMap SVal.cells)[j]? = some u → w.cell? ((⟨g, 0, none⟩ : Addr).add j) = some u := by
  intro j u hu
  have hj : j < l.length * 5 := by have := (List.getElem?_eq_some_iff.1 hu).1; rwa [flat_len] at this
  have hi : j / 5 < l.length := by omega
  obtain ⟨g', e, hg, hc⟩ := h.2 (by omega)
  injection e with e; injection e with e; subst e
  rw [add_zero_off]
  have hx : l[j / 5]? = some l[j / 5] := List.getElem?_eq_getElem hi
  have hlen : (l[j / 5]).cells.length = 5 := rfl
  have hu2 : (l[j / 5]).cells[j % 5]? = some ((l[j / 5]).cells[j % 5]'(by rw [hlen]; omega)) := List.getElem?_eq_getElem _
  have h1 := flat_at hx hu2
  have h2 := hc _ _ hx _ _ hu2
  have hjj : j / 5 * 5 + j % 5 = j := by omega
  rw [hjj] at h1 h2
  rw [h2, ← h1, hu]
theorem flat_one (l : List SVal) : ∀ u ∈ l.flatMap SVal.cells, u.oneCell' = true := by
  intro u hu
  obtain ⟨x, _, hx⟩ := List.mem_flatMap.1 hu
  exact one_cells x u hx
theorem VL.new (w : World) (x : SVal) (t : TypeId) (g : Nat) (hg : g = w.heap.size) : VL (w.alloc (.cells #[.int .i64 x.k, .int .i64 x.n, .int .i64 x.d, .string x.t, .slice none 0 0] t)) (some ⟨g, 0, none⟩) [x] := by
  subst hg; exact VL.one w x t
set_option maxRecDepth 100000 in
set_option maxHeartbeats 2000000 in
theorem Flat_nil (A : Option Addr) (cap : Nat) (w : World) :
    Calls Tryz.prog 30 #[.slice A 0 cap] w fun e w' => e = .returned (.slice none 0 0) ∧ Fr w w' := by
  go_enter Tryz.func30, Tryz.ntmps30
  go_wp2
  go_loop [3, 4] (fun v i => v = .slice none 0 0 ∧ i = .int .i64 0) (fun _ i => 0)
  case atStart => exact ⟨rfl, rfl⟩
  case round =>
    obtain ⟨rfl, rfl⟩ := hrel
    go_wp2
    go_ret
    exact ⟨rfl, (by repeat (first | (with_reducible exact Fr.refl _) | ((with_reducible refine Fr.set ?_ ?_ _); focus (simp; done)) | (with_reducible refine Fr.alloc ?_ _) | (with_reducible refine Fr.drew ?_) | (with_reducible refine Fr.step ?_ (by assumption))))⟩
set_option maxRecDepth 100000 in
set_option maxHeartbeats 2000000 in
theorem Flat_table (g r : Nat) (c c' : Nat) (A : Option Addr) (cap : Nat) (l : List SVal) (w : World) (hv : VL w A l) (hk5 : ∀ x ∈ l, x.k ≠ 5) (hl0 : 0 < l.length)
    (h0 : w.cell? ⟨g, 0, none⟩ = some (.int .i64 5)) (h4 : w.cell? ⟨g, 4, none⟩ = some (.slice (some ⟨r, 0, none⟩) 1 c')) (hr : w.cell? ⟨r, 0, none⟩ = some (.slice A l.length cap)) (hg : g < w.heap.size) (hrl : r < w.heap.size) :
    Calls Tryz.prog 30 #[.slice (some ⟨g, 0, none⟩) 1 c] w fun e w' => ∃ A' cap', e = .returned (.slice A' l.length cap') ∧ VL w' A' l ∧ Fr w w' := by
  have hl := hv.1
  have Hv := Lib.hid hv; clear hv
  have HF := Lib.hid hk5; clear hk5
  obtain ⟨i0, hi, hz0, hz1, hz2⟩ := info_parts Tryz.infoVal
  have Hl := Lib.hid (flat_len l)
  go_enter Tryz.func30, Tryz.ntmps30
  go_wp2
  go_loopw [3, 4] (fun v i wr => ((i = .int .i64 0 ∧ v = .slice none 0 0) ∨ (i = .int .i64 1 ∧ ∃ A' cap', v = .slice A' l.length cap' ∧ VL wr A' l)) ∧ Fr w wr) (fun _ i _ => 1 - (intOf i).toNat)
  case atStart => exact ⟨.inl ⟨rfl, rfl⟩, Fr.refl _⟩
  case round =>
    obtain ⟨⟨rfl, rfl⟩ | ⟨rfl, A', cap', rfl, hV⟩, hf⟩ := hrel
    · obtain ⟨hc, hz⟩ := hf.cells
      go_wp2
      go_loopw [3, 5] (fun v i wq => ((i = .int .i64 0 ∧ v = .slice none 0 0) ∨ (i = .int .i64 1 ∧ ∃ A' cap', v = .slice A' l.length cap' ∧ VL wq A' l)) ∧ Fr w wq) (fun _ i _ => 1 - (intOf i).toNat)
      case atStart => exact ⟨.inl ⟨rfl, rfl⟩, hf⟩
      case round =>
        clear hc hz hf
        obtain ⟨⟨rfl, rfl⟩ | ⟨rfl, A', cap', rfl, hV⟩, hf⟩ := hrel
        · obtain ⟨hc, hz⟩ := hf.cells
          go_wp2_with fail
          refine (Flat_flat A cap l _ (Hv.out.fr hf) HF.out).mono ?_
          rintro e w1 ⟨A', cap', rfl, hV, hf1⟩
          obtain ⟨g', rfl, hg', -⟩ := hV.at hl0
          have HV := Lib.hid hV; clear hV
          have hf2 := hf.step hf1
          clear hf hc hz
          go_wp2_with (at_builtin; refine wpList_append_own _ rfl _ _ 29 rfl w.heap.size 27 i0 (sv 0 0 0 mt) 5 64 Tryz.underlying29 hi hz0 hz1 hz2 rfl (by decide) _ 0 [] rfl (World.ownsRow_nil _ _ _ _) ⟨g', 0, none⟩ l.length cap' (l.flatMap SVal.cells) rfl Hl.out (VL.cells HV.out) (flat_one l) (by simp only [maxLen]; omega) (by omega) (by have := hf2.size; omega) ?_)
          intro v' w2 hown1 hgrow _
          try simp only [Nat.zero_add] at hown1
          try simp only [List.nil_append] at hown1
          have hf3 := hf2.grown hgrow (fun k hk => by simp [Value.ownBlock] at hk)
          obtain ⟨A2, cap2, rfl, hV2⟩ := VL.own hown1 hl
          clear hown1 hgrow hf2 HV
          have HV2 := Lib.hid hV2; clear hV2
          go_wp2
          go_roundw
          case rel => exact ⟨.inr ⟨rfl, _, _, rfl, HV2.out⟩, hf3⟩
          case measure => simp [intOf]
        · have HV := Lib.hid hV; clear hV
          obtain ⟨hc, hz⟩ := hf.cells
          go_wp2
          go_roundw
          case rel => exact ⟨.inr ⟨rfl, _, _, rfl, HV.out⟩, hf⟩
          case measure => simp [intOf]
    · have HV := Lib.hid hV; clear hV
      go_wp2
      go_ret
      exact ⟨_, _, rfl, HV.out, hf⟩
end Go.Proofs.YtcmpfcijockmhaaGreatDoor
