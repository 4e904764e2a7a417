import Derived.Test.YtnpnclhjfemldaaGreatDoorS7
set_option linter.unusedSimpArgs false
set_option linter.unusedVariables false
namespace Go.Proofs.YtnpnclhjfemldaaGreatDoor
open Go.RowKit
structure SVal where
  k : Int
  n : Int
  d : Int
  t : ByteArray
def SVal.v (x : SVal) : Value := sv x.k x.n x.d x.t
def SVal.cells (x : SVal) : List Value := [.int .i64 x.k, .int .i64 x.n, .int .i64 x.d, .string x.t, .slice none 0 0]
/-- A slice of values without rows that can be read. -/
def VL (w : World) (A : Option Addr) (l : List SVal) : Prop :=
  l.length ≤ 1000000 ∧ (0 < l.length → ∃ g, A = some ⟨g, 0, none⟩ ∧ g < w.heap.size ∧ ∀ i x, l[i]? = some x → ∀ j u, x.cells[j]? = some u → w.cell? ⟨g, i * 5 + j, none⟩ = some u)
theorem VL.fr {w w' : World} {A : Option Addr} {l : List SVal} (h : VL w A l) (hf : Fr w w') : VL w' A l :=
  ⟨h.1, fun hn => by
    obtain ⟨g, e, hg, hc⟩ := h.2 hn
    exact ⟨g, e, Nat.lt_of_lt_of_le hg hf.size, fun i x hx j u hu => (hf.cells.1 _ _ hg).trans (hc i x hx j u hu)⟩⟩
theorem VL.at {w : World} {A : Option Addr} {l : List SVal} (h : VL w A l) {i : Nat} (hi : i < l.length) :
    ∃ g, A = some ⟨g, 0, none⟩ ∧ g < w.heap.size ∧ w.cell? ⟨g, i * 5, none⟩ = some (.int .i64 l[i].k) ∧ w.cell? ⟨g, i * 5 + 1, none⟩ = some (.int .i64 l[i].n) ∧
      w.cell? ⟨g, i * 5 + 2, none⟩ = some (.int .i64 l[i].d) ∧ w.cell? ⟨g, i * 5 + 3, none⟩ = some (.string l[i].t) ∧ w.cell? ⟨g, i * 5 + 4, none⟩ = some (.slice none 0 0) := by
  obtain ⟨g, e, hg, hc⟩ := h.2 (by omega)
  have hx : l[i]? = some l[i] := List.getElem?_eq_getElem hi
  exact ⟨g, e, hg, hc i _ hx 0 _ rfl, hc i _ hx 1 _ rfl, hc i _ hx 2 _ rfl, hc i _ hx 3 _ rfl, hc i _ hx 4 _ rfl⟩
theorem all_take {B : SVal → Bool} {l : List SVal} {k : Nat} (hk : k < l.length) (h : (l.take k).all B = true) (hb : B l[k] = true) : (l.take (k + 1)).all B = true := by
  rw [List.take_succ_eq_append_getElem hk, List.all_append, h]; simp [hb]
theorem all_bad {B : SVal → Bool} {l : List SVal} {k : Nat} (hk : k < l.length) (hb : B l[k] = false) : l.all B = false := by
  rw [List.all_eq_false]; exact ⟨l[k], List.getElem_mem hk, by rw [hb]; simp⟩
set_option maxRecDepth 100000 in
set_option maxHeartbeats 1000000 in
theorem every_some_numeric (A : Option Addr) (cap : Nat) (l : List SVal) (w : World) (hv : VL w A l)
    (hF : ∀ x ∈ l, ∀ w, Calls Tryz.prog 123 #[x.v] w (SomeB w)) :
    Calls Tryz.prog 122 #[.slice A l.length cap, .func (.func 123) #[] #[]] w (SomeB w) := by
  have hl := hv.1
  have Hv := Lib.hid hv; clear hv
  have HF := Lib.hid hF; clear hF
  obtain ⟨n, hn⟩ : ∃ n, n = l.length := ⟨_, rfl⟩
  have Hn := Lib.hid hn
  rw [← hn] at hl ⊢
  clear hn
  go_enter Tryz.func122, Tryz.ntmps122
  go_wp2
  go_loopw [5] (fun i wr => ∃ k : Nat, k ≤ n ∧ i = .int .i64 k ∧ Fr w wr) (fun i _ => n - (intOf i).toNat)
  case atStart => exact ⟨0, Nat.zero_le _, rfl, Fr.refl _⟩
  case round =>
    obtain ⟨k, hk, rfl, hf⟩ := hrel
    by_cases hlt : k < n
    · have hkl : k < l.length := by rw [← Hn.out]; exact hlt
      obtain ⟨g, rfl, hg, c0, c1, c2, c3, c4⟩ := (Hv.out.fr hf).at hkl
      have hH := Lib.hid (HF.out l[k] (List.getElem_mem hkl))
      generalize l[k] = x at *
      go_wp2_with fail
      refine (hH.out _).mono ?_
      rintro e w1 ⟨b, rfl, hf1⟩
      clear c0 c1 c2 c3 c4
      cases b
      · go_wp2
        go_ret
        exact ⟨_, rfl, hf.step hf1⟩
      · go_wp2
        go_roundw
        case rel => exact ⟨k + 1, by omega, by go_num, hf.step hf1⟩
        case measure => simp [intOf]; try omega
    · go_wp2
      go_ret
      exact ⟨_, rfl, hf⟩
set_option maxRecDepth 100000 in
set_option maxHeartbeats 1000000 in
theorem every_fn_given (B : SVal → Bool) (A : Option Addr) (cap : Nat) (l : List SVal) (w : World) (hv : VL w A l)
    (hF : ∀ x ∈ l, ∀ w, Calls Tryz.prog 138 #[x.v] w fun e w' => e = .returned (.bool (B x)) ∧ Fr w w') :
    Calls Tryz.prog 122 #[.slice A l.length cap, .func (.func 138) #[] #[]] w fun e w' => e = .returned (.bool (l.all B)) ∧ Fr w w' := by
  have hl := hv.1
  have Hv := Lib.hid hv; clear hv
  have HF := Lib.hid hF; clear hF
  obtain ⟨n, hn⟩ : ∃ n, n = l.length := ⟨_, rfl⟩
  have Hn := Lib.hid hn
  rw [← hn] at hl ⊢
  clear hn
  go_enter Tryz.func122, Tryz.ntmps122
  go_wp2
  go_loopw [5] (fun i wr => ∃ k : Nat, k ≤ n ∧ i = .int .i64 k ∧ (l.take k).all B = true ∧ Fr w wr) (fun i _ => n - (intOf i).toNat)
  case atStart => exact ⟨0, Nat.zero_le _, rfl, by simp, Fr.refl _⟩
  case round =>
    obtain ⟨k, hk, rfl, hall, hf⟩ := hrel
    have Hall := Lib.hid hall; clear hall
    by_cases hlt : k < n
    · have hkl : k < l.length := by rw [← Hn.out]; exact hlt
      obtain ⟨g, rfl, hg, c0, c1, c2, c3, c4⟩ := (Hv.out.fr hf).at hkl
      have hH := Lib.hid (HF.out l[k] (List.getElem_mem hkl))
      have hN := Lib.hid (fun h : B l[k] = true => all_take (B := B) hkl Hall.out h)
      have hB := Lib.hid (fun h : B l[k] = false => all_bad (B := B) hkl h)
      generalize l[k] = x at *
      cases hb : B x
      · have hv := Lib.hid (hB.out hb)
        rw [hb] at hH
        go_wp2_with fail
        refine (hH.out _).mono ?_
        rintro e w1 ⟨rfl, hf1⟩
        clear c0 c1 c2 c3 c4
        go_wp2
        go_ret
        exact ⟨by rw [hv.out]; rfl, hf.step hf1⟩
      · have hv := Lib.hid (hN.out hb)
        rw [hb] at hH
        go_wp2_with fail
        refine (hH.out _).mono ?_
        rintro e w1 ⟨rfl, hf1⟩
        clear c0 c1 c2 c3 c4
        go_wp2
        go_roundw
        case rel => exact ⟨k + 1, by omega, by go_num, hv.out, hf.step hf1⟩
        case measure => simp [intOf]; try omega
    · have hv := Lib.hid (show l.all B = true by have := Hall.out; rwa [List.take_of_length_le (by rw [← Hn.out]; omega)] at this)
      go_wp2
      go_ret
      exact ⟨by rw [hv.out]; rfl, hf⟩
end Go.Proofs.YtnpnclhjfemldaaGreatDoor
namespace Go.Proofs.YtnpnclhjfemldaaGreatDoor
open Go.RowKit
theorem numeric_any (x : SVal) (w : World) (hs : x.t.size ≤ maxLen) : Calls Tryz.prog 123 #[x.v] w (SomeB w) := by
  unfold SVal.v
  by_cases h1 : x.k = 1 ∨ x.k = 3
  · exact (numeric_number x.k x.n x.d x.t w h1).mono fun e w' ⟨he, hf⟩ => ⟨_, he, hf⟩
  · by_cases h2 : x.k = 2
    · rw [h2]; exact numeric_text x.n x.d x.t w hs
    · exact (numeric_none x.k x.n x.d x.t w (by simp; omega) (by simpa using h2) (by simp; omega)).mono fun e w' ⟨he, hf⟩ => ⟨_, he, hf⟩
/-- The texts are no longer than a string can be. -/
def Short (l : List SVal) : Prop := ∀ x ∈ l, x.t.size ≤ maxLen
def nmSWITCH : ByteArray := ⟨#[83, 87, 73, 84, 67, 72]⟩
set_option maxRecDepth 100000 in
set_option maxHeartbeats 1000000 in
theorem fitsNumbers_SWITCH (A : Option Addr) (cap : Nat) (l : List SVal) (w : World) (hv : VL w A l) (hs : Short l) :
    Calls Tryz.prog 43 #[.string nmSWITCH, .slice A l.length cap] w fun e w' => e = .returned (.tuple #[.bool false, .bool false]) ∧ Fr w w' := by
  unfold nmSWITCH
  have Hv := Lib.hid hv; clear hv
  have Hs := Lib.hid hs; clear hs
  go_enter Tryz.func43, Tryz.ntmps43
  go_wp2_with fail
  refine (every_some_numeric A cap l _ Hv.out (fun x hx w => numeric_any x w (Hs.out x hx))).mono ?_
  rintro e w1 ⟨b, rfl, hf1⟩
  go_wp2
  go_ret2
  exact ⟨rfl, (by repeat (first | (with_reducible exact Fr.refl _) | ((with_reducible refine Fr.set ?_ ?_ _); focus (simp; done)) | (with_reducible refine Fr.alloc ?_ _) | (with_reducible refine Fr.drew ?_) | (with_reducible refine Fr.step ?_ (by assumption))))⟩
end Go.Proofs.YtnpnclhjfemldaaGreatDoor
namespace Go.Proofs.YtnpnclhjfemldaaGreatDoor
open Go.RowKit
set_option maxRecDepth 100000 in
set_option maxHeartbeats 1000000 in
theorem fitsTexts_SWITCH (A : Option Addr) (n cap : Nat) (w : World) (hn : n ≤ 1000000) :
    Calls Tryz.prog 44 #[.string nmSWITCH, .slice A n cap] w fun e w' => e = .returned (.tuple #[.bool false, .bool false]) ∧ w = w' := by
  unfold nmSWITCH
  go_enter Tryz.func44, Tryz.ntmps44
  go_wp2
  go_ret2
  exact ⟨rfl, rfl⟩
end Go.Proofs.YtnpnclhjfemldaaGreatDoor
namespace Go.Proofs.YtnpnclhjfemldaaGreatDoor
open Go.RowKit
theorem flat_at {l : List SVal} {i j : Nat} {x : SVal} {u : Value} (hx : l[i]? = some x) (hu : x.cells[j]? = some u) : (l.flatMap SVal.cells)[i * 5 + j]? = some u := by
  induction l generalizing i with
  | nil => simp at hx
  | cons y l ih =>
    have hj : j < 5 := by have := (List.getElem?_eq_some_iff.1 hu).1; simpa [SVal.cells] using this
    rw [List.flatMap_cons]
    match i with
    | 0 =>
      simp at hx; subst hx
      rw [List.getElem?_append_left (by simp [SVal.cells]; omega)]
      simpa using hu
    | i + 1 =>
      rw [List.getElem?_append_right (by simp [SVal.cells]; omega)]
      have : (i + 1) * 5 + j - y.cells.length = i * 5 + j := by simp [SVal.cells]; omega
      rw [this]
      exact ih (by simpa using hx)
theorem flat_len (l : List SVal) : (l.flatMap SVal.cells).length = l.length * 5 := by
  induction l with
  | nil => rfl
  | cons y l ih => rw [List.flatMap_cons, List.length_append, ih]; simp [SVal.cells]; omega
theorem add_zero_off (g k : Nat) : (⟨g, 0, none⟩ : Addr).add k = ⟨g, k, none⟩ := by
  unfold Addr.add
  split
  · rename_i h; have : k = 0 := by simpa using h
    subst this; rfl
  · simp
theorem VL.own {w : World} {base : Nat} {e : TypeId} {v : Value} {l : List SVal} (h : w.ownsRow base e 5 v l.length (l.flatMap SVal.cells)) (hl : l.length ≤ 1000000) :
    ∃ A cap, v = .slice A l.length cap ∧ VL w A l := by
  rcases h.2 with ⟨rfl, hn⟩ | ⟨g, cap, cur, rfl, hb, hg, hnc, hcm, hcs, htake⟩
  · exact ⟨none, 0, by rw [hn], hl, fun h => by omega⟩
  · refine ⟨_, cap, rfl, hl, fun _ => ⟨g, rfl, (Array.getElem?_eq_some_iff.1 hg).1, fun i x hx j u hu => ?_⟩⟩
    have := h.cells (g := g) rfl _ _ (flat_at hx hu)
    rwa [add_zero_off] at this
theorem take_step {l : List SVal} {k : Nat} (hk : k < l.length) : (l.take (k + 1)).flatMap SVal.cells = (l.take k).flatMap SVal.cells ++ l[k].cells := by
  rw [List.take_succ_eq_append_getElem hk, List.flatMap_append]; simp
theorem Tryz.infoVal : (Tryz.prog.info? 25).map (fun i => (i.zero, i.size, i.bytes)) = some (some (sv 0 0 0 mt), 5, 64) := by kernel_rfl
/-- What a value's five cells lie as. -/
theorem cells_new (w : World) (x : SVal) (t : TypeId) : ∀ j u, x.cells[j]? = some u → (w.alloc (.cells #[.int .i64 x.k, .int .i64 x.n, .int .i64 x.d, .string x.t, .slice none 0 0] t)).cell? ((⟨w.heap.size, 0, none⟩ : Addr).add j) = some u := by
  intro j u hu
  have hj : j < 5 := by have := (List.getElem?_eq_some_iff.1 hu).1; simpa [SVal.cells] using this
  match j, hj, hu with
  | 0, _, hu => simp [SVal.cells] at hu; subst hu; simp [Addr.add, go_sem]
  | 1, _, hu => simp [SVal.cells] at hu; subst hu; simp [Addr.add, go_sem]
  | 2, _, hu => simp [SVal.cells] at hu; subst hu; simp [Addr.add, go_sem]
  | 3, _, hu => simp [SVal.cells] at hu; subst hu; simp [Addr.add, go_sem]
  | 4, _, hu => simp [SVal.cells] at hu; subst hu; simp [Addr.add, go_sem]
theorem one_cells (x : SVal) : ∀ u ∈ x.cells, u.oneCell' = true := by
  intro u hu; simp [SVal.cells] at hu; rcases hu with rfl | rfl | rfl | rfl | rfl <;> rfl
set_option maxRecDepth 100000 in
set_option maxHeartbeats 2000000 in
theorem Flat_flat (A : Option Addr) (cap : Nat) (l : List SVal) (w : World) (hv : VL w A l) (hk5 : ∀ x ∈ l, x.k ≠ 5) :
    Calls Tryz.prog 18 #[.slice A l.length cap] w fun e w' => ∃ A' cap', e = .returned (.slice A' l.length cap') ∧ VL w' A' l ∧ Fr w w' := by
  have hl := hv.1
  have Hv := Lib.hid hv; clear hv
  have HF := Lib.hid hk5; clear hk5
  obtain ⟨i0, hi, hz0, hz1, hz2⟩ := info_parts Tryz.infoVal
  obtain ⟨n, hn⟩ : ∃ n, n = l.length := ⟨_, rfl⟩
  rw [← hn] at hl ⊢
  have Hn := Lib.hid hn; clear hn
  go_enter Tryz.func18, Tryz.ntmps18
  go_wp2
  go_loopw [3, 4] (fun v i wr => ∃ k : Nat, k ≤ n ∧ i = .int .i64 k ∧ wr.ownsRow w.heap.size 25 5 v k ((l.take k).flatMap SVal.cells) ∧ Fr w wr) (fun _ i _ => n - (intOf i).toNat)
  case atStart => exact ⟨0, Nat.zero_le _, rfl, by simpa using World.ownsRow_nil _ _ _ _, Fr.refl _⟩
  case round =>
    obtain ⟨k, hk, rfl, hown, hf⟩ := hrel
    by_cases hlt : k < n
    · have hkl : k < l.length := by rw [← Hn.out]; exact hlt
      obtain ⟨g, rfl, hg, c0, c1, c2, c3, c4⟩ := (Hv.out.fr hf).at hkl
      have hH : l[k].k ≠ 5 := HF.out l[k] (List.getElem_mem hkl)
      have hts := Lib.hid (take_step hkl)
      generalize hx : l[k] = x at *
      go_wp2_with (at_builtin; refine wpList_append_own _ rfl _ _ 27 rfl w.heap.size 25 i0 (sv 0 0 0 mt) 5 64 Tryz.underlying27 hi hz0 hz1 hz2 rfl (by decide) _ _ _ rfl (hown.alloc _) ⟨wr.heap.size, 0, none⟩ 1 1 x.cells rfl rfl (cells_new _ x _) (one_cells x) (by simp only [maxLen]; omega) (by omega) (by have := hf.size; simp; omega) ?_)
      intro v' w1 hown1 hgrow _
      rw [← hts.out] at hown1
      have hf1 : Fr w w1 := (hf.alloc _).grown hgrow (fun k hk => (hown.lt k hk).1)
      clear hown hgrow hf c0 c1 c2 c3 c4
      go_wp2
      go_roundw
      case rel => exact ⟨k + 1, by omega, by simp, hown1, hf1⟩
      case measure => simp [intOf]; omega
    · have hkn : k = n := by omega
      subst hkn
      have hls : (l.take k).flatMap SVal.cells = l.flatMap SVal.cells := by rw [Hn.out, List.take_length]
      rw [hls] at hown
      obtain ⟨A', cap', hA, hV⟩ := VL.own (l := l) (by rw [← Hn.out]; exact hown) (by rw [← Hn.out]; exact hl)
      rw [← Hn.out] at hA
      subst hA
      clear hown hls
      have hV' := Lib.hid hV; clear hV
      go_wp2
      go_ret
      exact ⟨A', cap', rfl, hV'.out, hf⟩
end Go.Proofs.YtnpnclhjfemldaaGreatDoor
namespace Go.Proofs.YtnpnclhjfemldaaGreatDoor
open Go.RowKit
/-- A slice of texts that can be read. -/
def TL (w : World) (A : Option Addr) (l : List ByteArray) : Prop :=
  l.length ≤ 1000000 ∧ (0 < l.length → ∃ g, A = some ⟨g, 0, none⟩ ∧ g < w.heap.size ∧ ∀ i x, l[i]? = some x → w.cell? ⟨g, i, none⟩ = some (.string x))
theorem TL.fr {w w' : World} {A : Option Addr} {l : List ByteArray} (h : TL w A l) (hf : Fr w w') : TL w' A l :=
  ⟨h.1, fun hn => by
    obtain ⟨g, e, hg, hc⟩ := h.2 hn
    exact ⟨g, e, Nat.lt_of_lt_of_le hg hf.size, fun i x hx => (hf.cells.1 _ _ hg).trans (hc i x hx)⟩⟩
theorem TL.at {w : World} {A : Option Addr} {l : List ByteArray} (h : TL w A l) {i : Nat} (hi : i < l.length) :
    ∃ g, A = some ⟨g, 0, none⟩ ∧ g < w.heap.size ∧ w.cell? ⟨g, i, none⟩ = some (.string l[i]) := by
  obtain ⟨g, e, hg, hc⟩ := h.2 (by omega)
  exact ⟨g, e, hg, hc i _ (List.getElem?_eq_getElem hi)⟩
/-- Texts as cells. -/
def strs (l : List ByteArray) : List Value := l.map Value.string
theorem TL.own {w : World} {base : Nat} {e : TypeId} {v : Value} {l : List ByteArray} (h : w.ownsRow base e 1 v l.length (strs l)) (hl : l.length ≤ 1000000) :
    ∃ A cap, v = .slice A l.length cap ∧ TL w A l := by
  rcases h.2 with ⟨rfl, hn⟩ | ⟨g, cap, cur, rfl, hb, hg, hnc, hcm, hcs, htake⟩
  · exact ⟨none, 0, by rw [hn], hl, fun h => by omega⟩
  · refine ⟨_, cap, rfl, hl, fun _ => ⟨g, rfl, (Array.getElem?_eq_some_iff.1 hg).1, fun i x hx => ?_⟩⟩
    have := h.cells (g := g) rfl i (.string x) (by simp [strs, hx])
    rwa [add_zero_off] at this
theorem TL.of {w : World} {base : Nat} {e : TypeId} {A : Option Addr} {n cap : Nat} {l : List ByteArray} (h : w.ownsRow base e 1 (.slice A n cap) l.length (strs l)) (hl : l.length ≤ 1000000) : TL w A l := by
  obtain ⟨A', cap', hA, hT⟩ := TL.own h hl
  injection hA with h1 _ _
  rw [h1]; exact hT
set_option maxRecDepth 100000 in
set_option maxHeartbeats 2000000 in
theorem First_none (A : Option Addr) (cap : Nat) (l : List SVal) (w : World) (hv : VL w A l) (hk : ∀ x ∈ l, x.k ≠ 4 ∧ x.k ≠ 5 ∧ x.k ≠ 6) :
    Calls Tryz.prog 184 #[.slice A l.length cap] w fun e w' => e = .returned (.tuple #[sv 0 0 0 mt, .bool false]) ∧ Fr w w' := by
  have hl := hv.1
  have Hv := Lib.hid hv; clear hv
  have HF := Lib.hid hk; clear hk
  obtain ⟨n, hn⟩ : ∃ n, n = l.length := ⟨_, rfl⟩
  have Hn := Lib.hid hn
  rw [← hn] at hl ⊢
  clear hn
  go_enter Tryz.func184, Tryz.ntmps184
  go_wp2_with fail
  rw [Hn.out]
  refine (Flat_flat A cap l _ (Hv.out.fr (by repeat (first | (with_reducible exact Fr.refl _) | ((with_reducible refine Fr.set ?_ ?_ _); focus (simp; done)) | (with_reducible refine Fr.alloc ?_ _) | (with_reducible refine Fr.drew ?_) | (with_reducible refine Fr.step ?_ (by assumption))))) (fun x hx => (HF.out x hx).2.1)).mono ?_
  rintro e w1 ⟨A', cap', rfl, hV, hf1⟩
  rw [← Hn.out]
  have HV := Lib.hid hV; clear hV
  obtain ⟨hc1, hz1⟩ := hf1.cells
  have hlt1 : w.heap.size < w1.heap.size := by have := hf1.size; simp at this; omega
  go_wp2
  go_loop [4] (fun i => ∃ k : Nat, k ≤ n ∧ i = .int .i64 k) (fun i => n - (intOf i).toNat)
  case atStart => exact ⟨0, Nat.zero_le _, rfl⟩
  case round =>
    obtain ⟨k, hk, rfl⟩ := hrel
    by_cases hlt : k < n
    · have hkl : k < l.length := by rw [← Hn.out]; exact hlt
      obtain ⟨g, rfl, hg, c0, c1, c2, c3, c4⟩ := HV.out.at hkl
      have hH : l[k].k ≠ 6 := (HF.out l[k] (List.getElem_mem hkl)).2.2
      generalize hx : l[k] = x at *
      go_wp2
      go_round
      case rel => exact ⟨k + 1, by omega, by simp⟩
      case measure => simp [intOf]; omega
    · go_wp2
      go_loop [5] (fun i => ∃ k : Nat, k ≤ n ∧ i = .int .i64 k) (fun i => n - (intOf i).toNat)
      case atStart => exact ⟨0, Nat.zero_le _, rfl⟩
      case round =>
        obtain ⟨k, hk, rfl⟩ := hrel
        by_cases hlt : k < n
        · have hkl : k < l.length := by rw [← Hn.out]; exact hlt
          obtain ⟨g, rfl, hg, c0, c1, c2, c3, c4⟩ := HV.out.at hkl
          have hH : l[k].k ≠ 4 := (HF.out l[k] (List.getElem_mem hkl)).1
          generalize hx : l[k] = x at *
          go_wp2
          go_round
          case rel => exact ⟨k + 1, by omega, by simp⟩
          case measure => simp [intOf]; omega
        · go_wp2
          exact bodyPost_ret (v := .tuple #[sv 0 0 0 mt, .bool false]) (by simp [results, Tryz.results184, go_sem, sv, mt, *]) rfl ⟨rfl, (by repeat (first | (with_reducible exact Fr.refl _) | ((with_reducible refine Fr.set ?_ ?_ _); focus (simp; done)) | (with_reducible refine Fr.alloc ?_ _) | (with_reducible refine Fr.drew ?_) | (with_reducible refine Fr.step ?_ (by assumption))))⟩
end Go.Proofs.YtnpnclhjfemldaaGreatDoor
namespace Go.Proofs.YtnpnclhjfemldaaGreatDoor
open Go.RowKit
theorem own_fr {w w' : World} {base : Nat} {e : TypeId} {sz : Nat} {v : Value} {n : Nat} {xs : List Value} (h : w.ownsRow base e sz v n xs) (hf : Fr w w') : w'.ownsRow base e sz v n xs := by
  refine ⟨h.1, ?_⟩
  rcases h.2 with ⟨rfl, hn⟩ | ⟨g, cap, cur, rfl, hb, hg, hnc, hcm, hcs, htake⟩
  · exact .inl ⟨rfl, hn⟩
  · exact .inr ⟨g, cap, cur, rfl, hb, (hf.block g (Array.getElem?_eq_some_iff.1 hg).1).trans hg, hnc, hcm, hcs, htake⟩
end Go.Proofs.YtnpnclhjfemldaaGreatDoor
namespace Go.Proofs.YtnpnclhjfemldaaGreatDoor
open Go.RowKit
set_option maxRecDepth 100000 in
set_option maxHeartbeats 2000000 in
theorem Stat_SWITCH (A : Option Addr) (n cap : Nat) (w : World) :
    Calls Tryz.prog 25 #[.string nmSWITCH, .slice A n cap] w fun e w' => e = .returned (.tuple #[sv 0 0 0 mt, .bool false]) ∧ Fr w w' := by
  unfold nmSWITCH
  go_enter Tryz.func25, Tryz.ntmps25
  go_wp2
  exact bodyPost_ret (v := .tuple #[sv 0 0 0 mt, .bool false]) (by simp [results, Tryz.results25, go_sem, sv, mt, *]) rfl ⟨rfl, (by repeat (first | (with_reducible exact Fr.refl _) | ((with_reducible refine Fr.set ?_ ?_ _); focus (simp; done)) | (with_reducible refine Fr.alloc ?_ _) | (with_reducible refine Fr.drew ?_) | (with_reducible refine Fr.step ?_ (by assumption))))⟩
set_option maxRecDepth 100000 in
set_option maxHeartbeats 2000000 in
theorem Criteria_SWITCH (A : Option Addr) (n cap : Nat) (w : World) :
    Calls Tryz.prog 26 #[.string nmSWITCH, .slice A n cap] w fun e w' => e = .returned (.tuple #[sv 0 0 0 mt, .bool false]) ∧ Fr w w' := by
  unfold nmSWITCH
  go_enter Tryz.func26, Tryz.ntmps26
  go_wp2
  exact bodyPost_ret (v := .tuple #[sv 0 0 0 mt, .bool false]) (by simp [results, Tryz.results26, go_sem, sv, mt, *]) rfl ⟨rfl, (by repeat (first | (with_reducible exact Fr.refl _) | ((with_reducible refine Fr.set ?_ ?_ _); focus (simp; done)) | (with_reducible refine Fr.alloc ?_ _) | (with_reducible refine Fr.drew ?_) | (with_reducible refine Fr.step ?_ (by assumption))))⟩
set_option maxRecDepth 100000 in
set_option maxHeartbeats 2000000 in
theorem Lookup_SWITCH (A : Option Addr) (n cap : Nat) (w : World) :
    Calls Tryz.prog 27 #[.string nmSWITCH, .slice A n cap] w fun e w' => e = .returned (.tuple #[sv 0 0 0 mt, .bool false]) ∧ Fr w w' := by
  unfold nmSWITCH
  go_enter Tryz.func27, Tryz.ntmps27
  go_wp2
  exact bodyPost_ret (v := .tuple #[sv 0 0 0 mt, .bool false]) (by simp [results, Tryz.results27, go_sem, sv, mt, *]) rfl ⟨rfl, (by repeat (first | (with_reducible exact Fr.refl _) | ((with_reducible refine Fr.set ?_ ?_ _); focus (simp; done)) | (with_reducible refine Fr.alloc ?_ _) | (with_reducible refine Fr.drew ?_) | (with_reducible refine Fr.step ?_ (by assumption))))⟩
set_option maxRecDepth 100000 in
set_option maxHeartbeats 2000000 in
theorem CallMath_SWITCH (A : Option Addr) (n cap : Nat) (w : World) :
    Calls Tryz.prog 28 #[.string nmSWITCH, .slice A n cap] w fun e w' => e = .returned (.tuple #[sv 0 0 0 mt, .bool false]) ∧ Fr w w' := by
  unfold nmSWITCH
  go_enter Tryz.func28, Tryz.ntmps28
  go_wp2
  exact bodyPost_ret (v := .tuple #[sv 0 0 0 mt, .bool false]) (by simp [results, Tryz.results28, go_sem, sv, mt, *]) rfl ⟨rfl, (by repeat (first | (with_reducible exact Fr.refl _) | ((with_reducible refine Fr.set ?_ ?_ _); focus (simp; done)) | (with_reducible refine Fr.alloc ?_ _) | (with_reducible refine Fr.drew ?_) | (with_reducible refine Fr.step ?_ (by assumption))))⟩
set_option maxRecDepth 100000 in
set_option maxHeartbeats 2000000 in
theorem CallText_SWITCH (A : Option Addr) (n cap : Nat) (w : World) :
    Calls Tryz.prog 29 #[.string nmSWITCH, .slice A n cap] w fun e w' => e = .returned (.tuple #[sv 0 0 0 mt, .bool false]) ∧ Fr w w' := by
  unfold nmSWITCH
  go_enter Tryz.func29, Tryz.ntmps29
  go_wp2
  exact bodyPost_ret (v := .tuple #[sv 0 0 0 mt, .bool false]) (by simp [results, Tryz.results29, go_sem, sv, mt, *]) rfl ⟨rfl, (by repeat (first | (with_reducible exact Fr.refl _) | ((with_reducible refine Fr.set ?_ ?_ _); focus (simp; done)) | (with_reducible refine Fr.alloc ?_ _) | (with_reducible refine Fr.drew ?_) | (with_reducible refine Fr.step ?_ (by assumption))))⟩
end Go.Proofs.YtnpnclhjfemldaaGreatDoor
namespace Go.Proofs.YtnpnclhjfemldaaGreatDoor
open Go.RowKit

end Go.Proofs.YtnpnclhjfemldaaGreatDoor
namespace Go.Proofs.YtnpnclhjfemldaaGreatDoor
open Go.RowKit

end Go.Proofs.YtnpnclhjfemldaaGreatDoor
namespace Go.Proofs.YtnpnclhjfemldaaGreatDoor
open Go.RowKit
theorem VL.one (w : World) (x : SVal) (t : TypeId) : VL (w.alloc (.cells #[.int .i64 x.k, .int .i64 x.n, .int .i64 x.d, .string x.t, .slice none 0 0] t)) (some ⟨w.heap.size, 0, none⟩) [x] := by
  refine ⟨by simp, fun _ => ⟨w.heap.size, rfl, by simp, fun i y hy j u hu => ?_⟩⟩
  have hi : i = 0 := by have := (List.getElem?_eq_some_iff.1 hy).1; simp at this; exact this
  subst hi
  simp at hy; subst hy
  have := cells_new w x t j u hu
  rw [add_zero_off] at this
  simpa using this
theorem VL.cells {w : World} {g : Nat} {l : List SVal} (h : VL w (some ⟨g, 0, none⟩) l) : ∀ j u, (l.flatMap SVal.cells)[j]? = some u → w.cell? ((⟨g, 0, none⟩ : Addr).add j) = some u := by
  intro j u hu
  have hj : j < l.length * 5 := by have := (List.getElem?_eq_some_iff.1 hu).1; rwa [flat_len] at this
  have hi : j / 5 < l.length := by omega
  obtain ⟨g', e, hg, hc⟩ := h.2 (by omega)
  injection e with e; injection e with e; subst e
  rw [add_zero_off]
  have hx : l[j / 5]? = some l[j / 5] := List.getElem?_eq_getElem hi
  have hlen : (l[j / 5]).cells.length = 5 := rfl
  have hu2 : (l[j / 5]).cells[j % 5]? = some ((l[j / 5]).cells[j % 5]'(by rw [hlen]; omega)) := List.getElem?_eq_getElem _
  have h1 := flat_at hx hu2
  have h2 := hc _ _ hx _ _ hu2
  have hjj : j / 5 * 5 + j % 5 = j := by omega
  rw [hjj] at h1 h2
  rw [h2, ← h1, hu]
theorem flat_one (l : List SVal) : ∀ u ∈ l.flatMap SVal.cells, u.oneCell' = true := by
  intro u hu
  obtain ⟨x, _, hx⟩ := List.mem_flatMap.1 hu
  exact one_cells x u hx
theorem VL.new (w : World) (x : SVal) (t : TypeId) (g : Nat) (hg : g = w.heap.size) : VL (w.alloc (.cells #[.int .i64 x.k, .int .i64 x.n, .int .i64 x.d, .string x.t, .slice none 0 0] t)) (some ⟨g, 0, none⟩) [x] := by
  subst hg; exact VL.one w x t
set_option maxRecDepth 100000 in
set_option maxHeartbeats 2000000 in
theorem Flat_table (g r : Nat) (c c' : Nat) (A : Option Addr) (cap : Nat) (l : List SVal) (w : World) (hv : VL w A l) (hk5 : ∀ x ∈ l, x.k ≠ 5) (hl0 : 0 < l.length)
    (h0 : w.cell? ⟨g, 0, none⟩ = some (.int .i64 5)) (h4 : w.cell? ⟨g, 4, none⟩ = some (.slice (some ⟨r, 0, none⟩) 1 c')) (hr : w.cell? ⟨r, 0, none⟩ = some (.slice A l.length cap)) (hg : g < w.heap.size) (hrl : r < w.heap.size) :
    Calls Tryz.prog 18 #[.slice (some ⟨g, 0, none⟩) 1 c] w fun e w' => ∃ A' cap', e = .returned (.slice A' l.length cap') ∧ VL w' A' l ∧ Fr w w' := by
  have hl := hv.1
  have Hv := Lib.hid hv; clear hv
  have HF := Lib.hid hk5; clear hk5
  obtain ⟨i0, hi, hz0, hz1, hz2⟩ := info_parts Tryz.infoVal
  have Hl := Lib.hid (flat_len l)
  go_enter Tryz.func18, Tryz.ntmps18
  go_wp2
  go_loopw [3, 4] (fun v i wr => ((i = .int .i64 0 ∧ v = .slice none 0 0) ∨ (i = .int .i64 1 ∧ ∃ A' cap', v = .slice A' l.length cap' ∧ VL wr A' l)) ∧ Fr w wr) (fun _ i _ => 1 - (intOf i).toNat)
  case atStart => exact ⟨.inl ⟨rfl, rfl⟩, Fr.refl _⟩
  case round =>
    obtain ⟨⟨rfl, rfl⟩ | ⟨rfl, A', cap', rfl, hV⟩, hf⟩ := hrel
    · obtain ⟨hc, hz⟩ := hf.cells
      go_wp2
      go_loopw [3, 5] (fun v i wq => ((i = .int .i64 0 ∧ v = .slice none 0 0) ∨ (i = .int .i64 1 ∧ ∃ A' cap', v = .slice A' l.length cap' ∧ VL wq A' l)) ∧ Fr w wq) (fun _ i _ => 1 - (intOf i).toNat)
      case atStart => exact ⟨.inl ⟨rfl, rfl⟩, hf⟩
      case round =>
        clear hc hz hf
        obtain ⟨⟨rfl, rfl⟩ | ⟨rfl, A', cap', rfl, hV⟩, hf⟩ := hrel
        · obtain ⟨hc, hz⟩ := hf.cells
          go_wp2_with fail
          refine (Flat_flat A cap l _ (Hv.out.fr hf) HF.out).mono ?_
          rintro e w1 ⟨A', cap', rfl, hV, hf1⟩
          obtain ⟨g', rfl, hg', -⟩ := hV.at hl0
          have HV := Lib.hid hV; clear hV
          have hf2 := hf.step hf1
          clear hf hc hz
          go_wp2_with (at_builtin; refine wpList_append_own _ rfl _ _ 27 rfl w.heap.size 25 i0 (sv 0 0 0 mt) 5 64 Tryz.underlying27 hi hz0 hz1 hz2 rfl (by decide) _ 0 [] rfl (World.ownsRow_nil _ _ _ _) ⟨g', 0, none⟩ l.length cap' (l.flatMap SVal.cells) rfl Hl.out (VL.cells HV.out) (flat_one l) (by simp only [maxLen]; omega) (by omega) (by have := hf2.size; omega) ?_)
          intro v' w2 hown1 hgrow _
          try simp only [Nat.zero_add] at hown1
          try simp only [List.nil_append] at hown1
          have hf3 := hf2.grown hgrow (fun k hk => by simp [Value.ownBlock] at hk)
          obtain ⟨A2, cap2, rfl, hV2⟩ := VL.own hown1 hl
          clear hown1 hgrow hf2 HV
          have HV2 := Lib.hid hV2; clear hV2
          go_wp2
          go_roundw
          case rel => exact ⟨.inr ⟨rfl, _, _, rfl, HV2.out⟩, hf3⟩
          case measure => simp [intOf]
        · have HV := Lib.hid hV; clear hV
          obtain ⟨hc, hz⟩ := hf.cells
          go_wp2
          go_roundw
          case rel => exact ⟨.inr ⟨rfl, _, _, rfl, HV.out⟩, hf⟩
          case measure => simp [intOf]
    · have HV := Lib.hid hV; clear hV
      go_wp2
      go_ret
      exact ⟨_, _, rfl, HV.out, hf⟩
end Go.Proofs.YtnpnclhjfemldaaGreatDoor
namespace Go.Proofs.YtnpnclhjfemldaaGreatDoor
open Go.RowKit
set_option maxRecDepth 100000 in
set_option maxHeartbeats 400000 in
theorem doubtful_yes (n d : Int) (t : ByteArray) (w : World) :
    Calls Tryz.prog 9 #[sv 6 n d t] w fun e w' => e = .returned (.bool true) ∧ Fr w w' := by
  unfold sv
  go_enter Tryz.func9, Tryz.ntmps9
  go_wp2_with fail
  refine (Flat_flat _ 1 [⟨6, n, d, t⟩] _ (VL.new _ ⟨6, n, d, t⟩ _ _ (by simp)) (fun y hy => by simp at hy; subst hy; simp)).mono ?_
  rintro e w1 ⟨A', cap', rfl, hV, hf1⟩
  obtain ⟨g, rfl, hg, c0, c1, c2, c3, c4⟩ := hV.at (i := 0) (by simp)
  simp at c0
  clear hV c1 c2 c3 c4
  go_wp2
  go_loop [4] (fun i => i = .int .i64 0) (fun i => 0)
  case atStart => rfl
  case round =>
    subst hrel
    go_wp2
    go_ret
    exact ⟨rfl, (by repeat (first | (with_reducible exact Fr.refl _) | ((with_reducible refine Fr.set ?_ ?_ _); focus (simp; done)) | (with_reducible refine Fr.alloc ?_ _) | (with_reducible refine Fr.drew ?_) | (with_reducible refine Fr.step ?_ (by assumption))))⟩
set_option maxRecDepth 100000 in
set_option maxHeartbeats 400000 in
theorem doubtful_no (k n d : Int) (t : ByteArray) (w : World) (h5 : k ≠ 5) (h6 : k ≠ 6) :
    Calls Tryz.prog 9 #[sv k n d t] w fun e w' => e = .returned (.bool false) ∧ Fr w w' := by
  unfold sv
  have H5 := Lib.hid h5; clear h5
  go_enter Tryz.func9, Tryz.ntmps9
  go_wp2_with fail
  refine (Flat_flat _ 1 [⟨k, n, d, t⟩] _ (VL.new _ ⟨k, n, d, t⟩ _ _ (by simp)) (fun y hy => by simp at hy; subst hy; exact H5.out)).mono ?_
  rintro e w1 ⟨A', cap', rfl, hV, hf1⟩
  obtain ⟨g, rfl, hg, c0, c1, c2, c3, c4⟩ := hV.at (i := 0) (by simp)
  simp at c0
  clear hV c1 c2 c3 c4
  go_wp2
  go_loop [4] (fun i => i = .int .i64 0 ∨ i = .int .i64 1) (fun i => 1 - (intOf i).toNat)
  case atStart => exact .inl rfl
  case round =>
    obtain rfl | rfl := hrel
    · go_wp2
      go_round
      case rel => exact .inr rfl
      case measure => simp [intOf]
    · go_wp2
      go_ret
      exact ⟨rfl, (by repeat (first | (with_reducible exact Fr.refl _) | ((with_reducible refine Fr.set ?_ ?_ _); focus (simp; done)) | (with_reducible refine Fr.alloc ?_ _) | (with_reducible refine Fr.drew ?_) | (with_reducible refine Fr.step ?_ (by assumption))))⟩
set_option maxRecDepth 100000 in
set_option maxHeartbeats 400000 in
theorem doubtful_table (r : Nat) (c' : Nat) (A : Option Addr) (cap : Nat) (l : List SVal) (w : World) (hv : VL w A l) (hk : ∀ x ∈ l, x.k ≠ 5 ∧ x.k ≠ 6) (hl0 : 0 < l.length)
    (hr : w.cell? ⟨r, 0, none⟩ = some (.slice A l.length cap)) (hrl : r < w.heap.size) :
    Calls Tryz.prog 9 #[.agg #[.int .i64 5, .int .i64 0, .int .i64 0, .string mt, .slice (some ⟨r, 0, none⟩) 1 c']] w fun e w' => e = .returned (.bool false) ∧ Fr w w' := by
  have Hv := Lib.hid hv; clear hv
  have HF := Lib.hid hk; clear hk
  have Hl0 := Lib.hid hl0; clear hl0
  go_enter Tryz.func9, Tryz.ntmps9
  go_wp2_with fail
  refine (Flat_table _ r 1 c' A cap l _ (Hv.out.fr (by repeat (first | (with_reducible exact Fr.refl _) | ((with_reducible refine Fr.set ?_ ?_ _); focus (simp; done)) | (with_reducible refine Fr.alloc ?_ _) | (with_reducible refine Fr.drew ?_) | (with_reducible refine Fr.step ?_ (by assumption))))) (fun x hx => (HF.out x hx).1) Hl0.out (by simp [go_sem]) (by simp [go_sem]) (by simp [go_sem, hr, hrl]) (by simp) (by simp; omega)).mono ?_
  rintro e w1 ⟨A', cap', rfl, hV, hf1⟩
  have HV := Lib.hid hV; clear hV
  have hl := HV.out.1
  go_wp2
  go_loop [4] (fun i => ∃ k : Nat, k ≤ l.length ∧ i = .int .i64 k) (fun i => l.length - (intOf i).toNat)
  case atStart => exact ⟨0, Nat.zero_le _, rfl⟩
  case round =>
    obtain ⟨k, hk, rfl⟩ := hrel
    by_cases hlt : k < l.length
    · obtain ⟨g, rfl, hg, c0, c1, c2, c3, c4⟩ := HV.out.at hlt
      have hH : l[k].k ≠ 6 := (HF.out l[k] (List.getElem_mem hlt)).2
      generalize hx : l[k] = x at *
      go_wp2
      go_round
      case rel => exact ⟨k + 1, by omega, by simp⟩
      case measure => simp [intOf]; omega
    · go_wp2
      go_ret
      exact ⟨rfl, (by repeat (first | (with_reducible exact Fr.refl _) | ((with_reducible refine Fr.set ?_ ?_ _); focus (simp; done)) | (with_reducible refine Fr.alloc ?_ _) | (with_reducible refine Fr.drew ?_) | (with_reducible refine Fr.step ?_ (by assumption))))⟩
set_option maxRecDepth 100000 in
set_option maxHeartbeats 400000 in
theorem Table_any (A : Option Addr) (n c : Nat) (w : World) :
    Calls Tryz.prog 10 #[.slice A n c] w fun e w' => e = .returned (.agg #[.int .i64 5, .int .i64 0, .int .i64 0, .string mt, .slice A n c]) ∧ Fr w w' := by
  go_enter Tryz.func10, Tryz.ntmps10
  go_wp2
  exact bodyPost_ret (v := .agg #[.int .i64 5, .int .i64 0, .int .i64 0, .string mt, .slice A n c]) (by simp [results, Tryz.results10, go_sem, sv, mt, *]) rfl ⟨rfl, (by repeat (first | (with_reducible exact Fr.refl _) | ((with_reducible refine Fr.set ?_ ?_ _); focus (simp; done)) | (with_reducible refine Fr.alloc ?_ _) | (with_reducible refine Fr.drew ?_) | (with_reducible refine Fr.step ?_ (by assumption))))⟩
end Go.Proofs.YtnpnclhjfemldaaGreatDoor
