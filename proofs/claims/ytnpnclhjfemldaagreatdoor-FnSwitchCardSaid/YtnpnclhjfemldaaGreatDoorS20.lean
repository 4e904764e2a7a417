import Derived.Test.YtnpnclhjfemldaaGreatDoorS19
set_option linter.unusedSimpArgs false
set_option linter.unusedVariables false
namespace Go.Proofs.YtnpnclhjfemldaaGreatDoor
open Go.RowKit
open Fl
/-- A value of the program without rows. -/
structure IVal where
  k : Int
  x : Nat
  t : ByteArray
def IVal.v (x : IVal) : Value := iv x.k x.x x.t
def IVal.cells (x : IVal) : List Value := [.int .i64 x.k, .float .f64 x.x, .string x.t, .slice none 0 0]
def IL (w : World) (A : Option Addr) (l : List IVal) : Prop :=
  l.length ≤ 1000000 ∧ (0 < l.length → ∃ g, A = some ⟨g, 0, none⟩ ∧ g < w.heap.size ∧ ∀ i x, l[i]? = some x → ∀ j u, x.cells[j]? = some u → w.cell? ⟨g, i * 4 + j, none⟩ = some u)
theorem IL.fr {w w' : World} {A : Option Addr} {l : List IVal} (h : IL w A l) (hf : Fr w w') : IL w' A l :=
  ⟨h.1, fun hn => by
    obtain ⟨g, e, hg, hc⟩ := h.2 hn
    exact ⟨g, e, Nat.lt_of_lt_of_le hg hf.size, fun i x hx j u hu => (hf.cells.1 _ _ hg).trans (hc i x hx j u hu)⟩⟩
theorem IL.at {w : World} {A : Option Addr} {l : List IVal} (h : IL w A l) {i : Nat} (hi : i < l.length) :
    ∃ g, A = some ⟨g, 0, none⟩ ∧ g < w.heap.size ∧ w.cell? ⟨g, i * 4, none⟩ = some (.int .i64 l[i].k) ∧ w.cell? ⟨g, i * 4 + 1, none⟩ = some (.float .f64 l[i].x) ∧
      w.cell? ⟨g, i * 4 + 2, none⟩ = some (.string l[i].t) ∧ w.cell? ⟨g, i * 4 + 3, none⟩ = some (.slice none 0 0) := by
  obtain ⟨g, e, hg, hc⟩ := h.2 (by omega)
  have hx : l[i]? = some l[i] := List.getElem?_eq_getElem hi
  exact ⟨g, e, hg, hc i _ hx 0 _ rfl, hc i _ hx 1 _ rfl, hc i _ hx 2 _ rfl, hc i _ hx 3 _ rfl⟩
theorem iflat_at {l : List IVal} {i j : Nat} {x : IVal} {u : Value} (hx : l[i]? = some x) (hu : x.cells[j]? = some u) : (l.flatMap IVal.cells)[i * 4 + j]? = some u := by
  induction l generalizing i with
  | nil => simp at hx
  | cons y l ih =>
    have hj : j < 4 := by have := (List.getElem?_eq_some_iff.1 hu).1; simpa [IVal.cells] using this
    rw [List.flatMap_cons]
    match i with
    | 0 =>
      simp at hx; subst hx
      rw [List.getElem?_append_left (by simp [IVal.cells]; omega)]
      simpa using hu
    | i + 1 =>
      rw [List.getElem?_append_right (by simp [IVal.cells]; omega)]
      have : (i + 1) * 4 + j - y.cells.length = i * 4 + j := by simp [IVal.cells]; omega
      rw [this]
      exact ih (by simpa using hx)
theorem IL.own {w : World} {base : Nat} {e : TypeId} {v : Value} {l : List IVal} (h : w.ownsRow base e 4 v l.length (l.flatMap IVal.cells)) (hl : l.length ≤ 1000000) :
    ∃ A cap, v = .slice A l.length cap ∧ IL w A l := by
  rcases h.2 with ⟨rfl, hn⟩ | ⟨g, cap, cur, rfl, hb, hg, hnc, hcm, hcs, htake⟩
  · exact ⟨none, 0, by rw [hn], hl, fun h => by omega⟩
  · refine ⟨_, cap, rfl, hl, fun _ => ⟨g, rfl, (Array.getElem?_eq_some_iff.1 hg).1, fun i x hx j u hu => ?_⟩⟩
    have := h.cells (g := g) rfl _ _ (iflat_at hx hu)
    rwa [add_zero_off] at this
theorem itake_step {l : List IVal} {k : Nat} (hk : k < l.length) : (l.take (k + 1)).flatMap IVal.cells = (l.take k).flatMap IVal.cells ++ l[k].cells := by
  rw [List.take_succ_eq_append_getElem hk, List.flatMap_append]; simp
theorem icells_new (w : World) (x : IVal) (t : TypeId) : ∀ j u, x.cells[j]? = some u → (w.alloc (.cells #[.int .i64 x.k, .float .f64 x.x, .string x.t, .slice none 0 0] t)).cell? ((⟨w.heap.size, 0, none⟩ : Addr).add j) = some u := by
  intro j u hu
  have hj : j < 4 := by have := (List.getElem?_eq_some_iff.1 hu).1; simpa [IVal.cells] using this
  match j, hj, hu with
  | 0, _, hu => simp [IVal.cells] at hu; subst hu; simp [Addr.add, go_sem]
  | 1, _, hu => simp [IVal.cells] at hu; subst hu; simp [Addr.add, go_sem]
  | 2, _, hu => simp [IVal.cells] at hu; subst hu; simp [Addr.add, go_sem]
  | 3, _, hu => simp [IVal.cells] at hu; subst hu; simp [Addr.add, go_sem]
theorem ione_cells (x : IVal) : ∀ u ∈ x.cells, u.oneCell' = true := by
  intro u hu; simp [IVal.cells] at hu; rcases hu with rfl | rfl | rfl | rfl <;> rfl
theorem Tryz.infoIVal : (Tryz.prog.info? 38).map (fun i => (i.zero, i.size, i.bytes)) = some (some (iv 0 0 mt), 4, 56) := by kernel_rfl
theorem Tryz.infoArg : (Tryz.prog.info? 44).map (fun i => (i.zero, i.size, i.bytes)) = some (some (iv 0 0 mt), 4, 56) := by kernel_rfl
set_option maxRecDepth 100000 in
set_option maxHeartbeats 2000000 in
theorem all_any (A : Option Addr) (cap : Nat) (l : List SVal) (ov : SVal → IVal) (w : World) (hv : VL w A l)
    (hof : ∀ x ∈ l, ∀ w, Calls Tryz.prog 19 #[x.v] w fun e w' => e = .returned (ov x).v ∧ Fr w w') :
    Calls Tryz.prog 12 #[.slice A l.length cap] w fun e w' => ∃ A' cap', e = .returned (.slice A' l.length cap') ∧ IL w' A' (l.map ov) ∧ Fr w w' := by
  have hl := hv.1
  have Hv := Lib.hid hv; clear hv
  have HF := Lib.hid hof; clear hof
  obtain ⟨i0, hi, hz0, hz1, hz2⟩ := info_parts Tryz.infoIVal
  obtain ⟨n, hn⟩ : ∃ n, n = l.length := ⟨_, rfl⟩
  have Hn := Lib.hid hn
  rw [← hn] at hl ⊢
  clear hn
  obtain ⟨ys, hys⟩ : ∃ ys, ys = l.map ov := ⟨_, rfl⟩
  have Hy := Lib.hid hys
  have Hlen := Lib.hid (show ys.length = n by rw [hys, List.length_map, Hn.out])
  clear hys
  go_enter Tryz.func12, Tryz.ntmps12
  go_wp2
  go_loopw [3, 4] (fun v i wr => ∃ k : Nat, k ≤ n ∧ i = .int .i64 k ∧ wr.ownsRow w.heap.size 38 4 v k ((ys.take k).flatMap IVal.cells) ∧ Fr w wr) (fun _ i _ => n - (intOf i).toNat)
  case atStart => exact ⟨0, Nat.zero_le _, rfl, by simpa using World.ownsRow_nil _ _ _ _, Fr.refl _⟩
  case round =>
    obtain ⟨k, hk, rfl, hown, hf⟩ := hrel
    by_cases hlt : k < n
    · have hkl : k < l.length := by rw [← Hn.out]; exact hlt
      have hky : k < ys.length := by rw [Hlen.out]; exact hlt
      obtain ⟨g, rfl, hg, c0, c1, c2, c3, c4⟩ := (Hv.out.fr hf).at hkl
      have hH := Lib.hid (HF.out l[k] (List.getElem_mem hkl))
      have hts := Lib.hid (itake_step hky)
      have hyk : ys[k] = ov l[k] := by simp [Hy.out]
      rw [hyk] at hts
      clear hyk
      generalize hx : l[k] = x at *
      go_wp2_with fail
      refine (hH.out _).mono ?_
      rintro e w1 ⟨rfl, hf1⟩
      have hown0 := own_fr hown hf1
      have hf2 := hf.step hf1
      have hsz := hf2.size
      clear hown hf c0 c1 c2 c3 c4
      generalize ov x = y at *
      unfold IVal.v iv
      go_wp2_with (at_builtin; refine wpList_append_own _ rfl _ _ 39 rfl w.heap.size 38 i0 (iv 0 0 mt) 4 56 Tryz.underlying39 hi hz0 hz1 hz2 rfl (by decide) _ _ _ rfl (hown0.alloc _) ⟨w1.heap.size, 0, none⟩ 1 1 y.cells rfl rfl (icells_new _ y _) (ione_cells y) (by simp only [maxLen]; omega) (by omega) (by simp; omega) ?_)
      intro v' w2 hown1 hgrow _
      rw [← hts.out] at hown1
      have hf3 : Fr w w2 := (hf2.alloc _).grown hgrow (fun k hk => (hown0.lt k hk).1)
      clear hown0 hgrow hf2
      go_wp2
      go_roundw
      case rel => exact ⟨k + 1, by omega, by simp, hown1, hf3⟩
      case measure => simp [intOf]; omega
    · have hkn : k = n := by omega
      subst hkn
      have hls : (ys.take k).flatMap IVal.cells = ys.flatMap IVal.cells := by rw [← Hlen.out, List.take_length]
      rw [hls] at hown
      obtain ⟨A', cap', hA, hV⟩ := IL.own (l := ys) (by rw [Hlen.out]; exact hown) (by rw [Hlen.out]; exact hl)
      rw [Hlen.out] at hA
      subst hA
      clear hown hls
      have hV' := Lib.hid hV; clear hV
      go_wp2
      go_ret
      exact ⟨A', cap', rfl, by rw [← Hy.out]; exact hV'.out, hf⟩
set_option maxRecDepth 100000 in
set_option maxHeartbeats 2000000 in
theorem in_any (A : Option Addr) (cap : Nat) (l : List IVal) (w : World) (hv : IL w A l) :
    Calls Tryz.prog 15 #[.slice A l.length cap] w fun e w' => ∃ A' cap', e = .returned (.slice A' l.length cap') ∧ IL w' A' l ∧ Fr w w' := by
  have hl := hv.1
  have Hv := Lib.hid hv; clear hv
  obtain ⟨i0, hi, hz0, hz1, hz2⟩ := info_parts Tryz.infoArg
  obtain ⟨n, hn⟩ : ∃ n, n = l.length := ⟨_, rfl⟩
  have Hn := Lib.hid hn
  rw [← hn] at hl ⊢
  clear hn
  go_enter Tryz.func15, Tryz.ntmps15
  go_wp2
  go_loopw [3, 11] (fun v i wr => ∃ k : Nat, k ≤ n ∧ i = .int .i64 k ∧ wr.ownsRow w.heap.size 44 4 v k ((l.take k).flatMap IVal.cells) ∧ Fr w wr) (fun _ i _ => n - (intOf i).toNat)
  case atStart => exact ⟨0, Nat.zero_le _, rfl, by simpa using World.ownsRow_nil _ _ _ _, Fr.refl _⟩
  case round =>
    obtain ⟨k, hk, rfl, hown, hf⟩ := hrel
    have hsz := hf.size
    by_cases hlt : k < n
    · have hkl : k < l.length := by rw [← Hn.out]; exact hlt
      obtain ⟨g, rfl, hg, c0, c1, c2, c3⟩ := (Hv.out.fr hf).at hkl
      have hts := Lib.hid (itake_step hkl)
      generalize hx : l[k] = y at *
      go_wp2
      go_loop [25] (fun i => i = .int .i64 0) (fun i => 0)
      case atStart => rfl
      case round =>
        subst hrel
        go_wp2_with (at_builtin; refine wpList_append_own _ rfl _ _ 46 rfl w.heap.size 44 i0 (iv 0 0 mt) 4 56 Tryz.underlying46 hi hz0 hz1 hz2 rfl (by decide) _ _ _ rfl (((hown.alloc _).alloc _).alloc _) ⟨wr.heap.size + 1 + 1, 0, none⟩ 1 1 y.cells rfl rfl (by have := icells_new ((wr.alloc (.cells #[.int .i64 y.k, .float .f64 y.x, .string y.t, .slice none 0 0] 38)).alloc (.cells #[.int .i64 y.k, .float .f64 y.x, .string y.t, .slice none 0 0] 44)) y 44; simpa using this) (ione_cells y) (by simp only [maxLen]; omega) (by omega) (by simp; omega) ?_)
        intro v' w2 hown1 hgrow _
        rw [← hts.out] at hown1
        have hf3 : Fr w w2 := (((hf.alloc _).alloc _).alloc _).grown hgrow (fun k hk => (hown.lt k hk).1)
        clear hown hgrow hf c0 c1 c2 c3
        go_wp2
        go_roundw
        case rel => exact ⟨k + 1, by omega, by simp, hown1, hf3⟩
        case measure => simp [intOf]; omega
    · have hkn : k = n := by omega
      subst hkn
      have hls : (l.take k).flatMap IVal.cells = l.flatMap IVal.cells := by rw [Hn.out, List.take_length]
      rw [hls] at hown
      obtain ⟨A', cap', hA, hV⟩ := IL.own (l := l) (by rw [← Hn.out]; exact hown) (by rw [← Hn.out]; exact hl)
      rw [← Hn.out] at hA
      subst hA
      clear hown hls
      have hV' := Lib.hid hV; clear hV
      go_wp2
      go_ret
      exact ⟨A', cap', rfl, hV'.out, hf⟩
end Go.Proofs.YtnpnclhjfemldaaGreatDoor
