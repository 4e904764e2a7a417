import Derived.Test.YtcmpfcijockmhaaGreatDoorS7
set_option linter.unusedSimpArgs false
set_option linter.unusedVariables false
namespace Go.Proofs.YtcmpfcijockmhaaGreatDoor
open Go.RowKit
structure SVal where
  k : Int
  n : Int
  d : Int
  t : ByteArray
def SVal.v (x : SVal) : Value := sv x.k x.n x.d x.t
def SVal.cells (x : SVal) : List Value := [.int .i64 x.k, .int .i64 x.n, .int .i64 x.d, .string x.t, .slice none 0 0]
/-- A slice of values without rows that can be read. -/
def VL (w : World) (A : Option Addr) (l : List SVal) : Prop :=
  l.length ≤ 1000000 ∧ (0 < l.length → ∃ g, A = some ⟨g, 0, none⟩ ∧ g < w.heap.size ∧ ∀ i x, l[i]? = some x → ∀ j u, x.cells[j]? = some u → w.cell? ⟨g, i * 5 + j, none⟩ = some u)
theorem VL.fr {w w' : World} {A : Option Addr} {l : List SVal} (h : VL w A l) (hf : Fr w w') : VL w' A l :=
  ⟨h.1, fun hn => by
    obtain ⟨g, e, hg, hc⟩ := h.2 hn
    exact ⟨g, e, Nat.lt_of_lt_of_le hg hf.size, fun i x hx j u hu => (hf.cells.1 _ _ hg).trans (hc i x hx j u hu)⟩⟩
theorem VL.at {w : World} {A : Option Addr} {l : List SVal} (h : VL w A l) {i : Nat} (hi : i < l.length) :
    ∃ g, A = some ⟨g, 0, none⟩ ∧ g < w.heap.size ∧ w.cell? ⟨g, i * 5, none⟩ = some (.int .i64 l[i].k) ∧ w.cell? ⟨g, i * 5 + 1, none⟩ = some (.int .i64 l[i].n) ∧
      w.cell? ⟨g, i * 5 + 2, none⟩ = some (.int .i64 l[i].d) ∧ w.cell? ⟨g, i * 5 + 3, none⟩ = some (.string l[i].t) ∧ w.cell? ⟨g, i * 5 + 4, none⟩ = some (.slice none 0 0) := by
  obtain ⟨g, e, hg, hc⟩ := h.2 (by omega)
  have hx : l[i]? = some l[i] := List.getElem?_eq_getElem hi
  exact ⟨g, e, hg, hc i _ hx 0 _ rfl, hc i _ hx 1 _ rfl, hc i _ hx 2 _ rfl, hc i _ hx 3 _ rfl, hc i _ hx 4 _ rfl⟩
theorem all_take {B : SVal → Bool} {l : List SVal} {k : Nat} (hk : k < l.length) (h : (l.take k).all B = true) (hb : B l[k] = true) : (l.take (k + 1)).all B = true := by
  rw [List.take_succ_eq_append_getElem hk, List.all_append, h]; simp [hb]
theorem all_bad {B : SVal → Bool} {l : List SVal} {k : Nat} (hk : k < l.length) (hb : B l[k] = false) : l.all B = false := by
  rw [List.all_eq_false]; exact ⟨l[k], List.getElem_mem hk, by rw [hb]; simp⟩
set_option maxRecDepth 100000 in
set_option maxHeartbeats 1000000 in
theorem every_some_numeric (A : Option Addr) (cap : Nat) (l : List SVal) (w : World) (hv : VL w A l)
    (hF : ∀ x ∈ l, ∀ w, Calls Tryz.prog 146 #[x.v] w (SomeB w)) :
    Calls Tryz.prog 145 #[.slice A l.length cap, .func (.func 146) #[] #[]] w (SomeB w) := by
  have hl := hv.1
  have Hv := Lib.hid hv; clear hv
  have HF := Lib.hid hF; clear hF
  obtain ⟨n, hn⟩ : ∃ n, n = l.length := ⟨_, rfl⟩
  have Hn := Lib.hid hn
  rw [← hn] at hl ⊢
  clear hn
  go_enter Tryz.func145, Tryz.ntmps145
  go_wp2
  go_loopw [5] (fun i wr => ∃ k : Nat, k ≤ n ∧ i = .int .i64 k ∧ Fr w wr) (fun i _ => n - (intOf i).toNat)
  case atStart => exact ⟨0, Nat.zero_le _, rfl, Fr.refl _⟩
  case round =>
    obtain ⟨k, hk, rfl, hf⟩ := hrel
    by_cases hlt : k < n
    · have hkl : k < l.length := by rw [← Hn.out]; exact hlt
      obtain ⟨g, rfl, hg, c0, c1, c2, c3, c4⟩ := (Hv.out.fr hf).at hkl
      have hH := Lib.hid (HF.out l[k] (List.getElem_mem hkl))
      generalize l[k] = x at *
      go_wp2_with fail
      refine (hH.out _).mono ?_
      rintro e w1 ⟨b, rfl, hf1⟩
      clear c0 c1 c2 c3 c4
      cases b
      · go_wp2
        go_ret
        exact ⟨_, rfl, hf.step hf1⟩
      · go_wp2
        go_roundw
        case rel => exact ⟨k + 1, by omega, by go_num, hf.step hf1⟩
        case measure => simp [intOf]; try omega
    · go_wp2
      go_ret
      exact ⟨_, rfl, hf⟩
set_option maxRecDepth 100000 in
set_option maxHeartbeats 1000000 in
theorem every_fn_numeric (B : SVal → Bool) (A : Option Addr) (cap : Nat) (l : List SVal) (w : World) (hv : VL w A l)
    (hF : ∀ x ∈ l, ∀ w, Calls Tryz.prog 146 #[x.v] w fun e w' => e = .returned (.bool (B x)) ∧ Fr w w') :
    Calls Tryz.prog 145 #[.slice A l.length cap, .func (.func 146) #[] #[]] w fun e w' => e = .returned (.bool (l.all B)) ∧ Fr w w' := by
  have hl := hv.1
  have Hv := Lib.hid hv; clear hv
  have HF := Lib.hid hF; clear hF
  obtain ⟨n, hn⟩ : ∃ n, n = l.length := ⟨_, rfl⟩
  have Hn := Lib.hid hn
  rw [← hn] at hl ⊢
  clear hn
  go_enter Tryz.func145, Tryz.ntmps145
  go_wp2
  go_loopw [5] (fun i wr => ∃ k : Nat, k ≤ n ∧ i = .int .i64 k ∧ (l.take k).all B = true ∧ Fr w wr) (fun i _ => n - (intOf i).toNat)
  case atStart => exact ⟨0, Nat.zero_le _, rfl, by simp, Fr.refl _⟩
  case round =>
    obtain ⟨k, hk, rfl, hall, hf⟩ := hrel
    have Hall := Lib.hid hall; clear hall
    by_cases hlt : k < n
    · have hkl : k < l.length := by rw [← Hn.out]; exact hlt
      obtain ⟨g, rfl, hg, c0, c1, c2, c3, c4⟩ := (Hv.out.fr hf).at hkl
      have hH := Lib.hid (HF.out l[k] (List.getElem_mem hkl))
      have hN := Lib.hid (fun h : B l[k] = true => all_take (B := B) hkl Hall.out h)
      have hB := Lib.hid (fun h : B l[k] = false => all_bad (B := B) hkl h)
      generalize l[k] = x at *
      cases hb : B x
      · have hv := Lib.hid (hB.out hb)
        rw [hb] at hH
        go_wp2_with fail
        refine (hH.out _).mono ?_
        rintro e w1 ⟨rfl, hf1⟩
        clear c0 c1 c2 c3 c4
        go_wp2
        go_ret
        exact ⟨by rw [hv.out]; rfl, hf.step hf1⟩
      · have hv := Lib.hid (hN.out hb)
        rw [hb] at hH
        go_wp2_with fail
        refine (hH.out _).mono ?_
        rintro e w1 ⟨rfl, hf1⟩
        clear c0 c1 c2 c3 c4
        go_wp2
        go_roundw
        case rel => exact ⟨k + 1, by omega, by go_num, hv.out, hf.step hf1⟩
        case measure => simp [intOf]; try omega
    · have hv := Lib.hid (show l.all B = true by have := Hall.out; rwa [List.take_of_length_le (by rw [← Hn.out]; omega)] at this)
      go_wp2
      go_ret
      exact ⟨by rw [hv.out]; rfl, hf⟩
set_option maxRecDepth 100000 in
set_option maxHeartbeats 1000000 in
theorem every_fn_given (B : SVal → Bool) (A : Option Addr) (cap : Nat) (l : List SVal) (w : World) (hv : VL w A l)
    (hF : ∀ x ∈ l, ∀ w, Calls Tryz.prog 161 #[x.v] w fun e w' => e = .returned (.bool (B x)) ∧ Fr w w') :
    Calls Tryz.prog 145 #[.slice A l.length cap, .func (.func 161) #[] #[]] w fun e w' => e = .returned (.bool (l.all B)) ∧ Fr w w' := by
  have hl := hv.1
  have Hv := Lib.hid hv; clear hv
  have HF := Lib.hid hF; clear hF
  obtain ⟨n, hn⟩ : ∃ n, n = l.length := ⟨_, rfl⟩
  have Hn := Lib.hid hn
  rw [← hn] at hl ⊢
  clear hn
  go_enter Tryz.func145, Tryz.ntmps145
  go_wp2
  go_loopw [5] (fun i wr => ∃ k : Nat, k ≤ n ∧ i = .int .i64 k ∧ (l.take k).all B = true ∧ Fr w wr) (fun i _ => n - (intOf i).toNat)
  case atStart => exact ⟨0, Nat.zero_le _, rfl, by simp, Fr.refl _⟩
  case round =>
    obtain ⟨k, hk, rfl, hall, hf⟩ := hrel
    have Hall := Lib.hid hall; clear hall
    by_cases hlt : k < n
    · have hkl : k < l.length := by rw [← Hn.out]; exact hlt
      obtain ⟨g, rfl, hg, c0, c1, c2, c3, c4⟩ := (Hv.out.fr hf).at hkl
      have hH := Lib.hid (HF.out l[k] (List.getElem_mem hkl))
      have hN := Lib.hid (fun h : B l[k] = true => all_take (B := B) hkl Hall.out h)
      have hB := Lib.hid (fun h : B l[k] = false => all_bad (B := B) hkl h)
      generalize l[k] = x at *
      cases hb : B x
      · have hv := Lib.hid (hB.out hb)
        rw [hb] at hH
        go_wp2_with fail
        refine (hH.out _).mono ?_
        rintro e w1 ⟨rfl, hf1⟩
        clear c0 c1 c2 c3 c4
        go_wp2
        go_ret
        exact ⟨by rw [hv.out]; rfl, hf.step hf1⟩
      · have hv := Lib.hid (hN.out hb)
        rw [hb] at hH
        go_wp2_with fail
        refine (hH.out _).mono ?_
        rintro e w1 ⟨rfl, hf1⟩
        clear c0 c1 c2 c3 c4
        go_wp2
        go_roundw
        case rel => exact ⟨k + 1, by omega, by go_num, hv.out, hf.step hf1⟩
        case measure => simp [intOf]; try omega
    · have hv := Lib.hid (show l.all B = true by have := Hall.out; rwa [List.take_of_length_le (by rw [← Hn.out]; omega)] at this)
      go_wp2
      go_ret
      exact ⟨by rw [hv.out]; rfl, hf⟩
set_option maxRecDepth 100000 in
set_option maxHeartbeats 1000000 in
theorem every_fn_texts (B : SVal → Bool) (A : Option Addr) (cap : Nat) (l : List SVal) (w : World) (hv : VL w A l)
    (hF : ∀ x ∈ l, ∀ w, Calls Tryz.prog 154 #[x.v] w fun e w' => e = .returned (.bool (B x)) ∧ Fr w w') :
    Calls Tryz.prog 145 #[.slice A l.length cap, .func (.func 154) #[] #[]] w fun e w' => e = .returned (.bool (l.all B)) ∧ Fr w w' := by
  have hl := hv.1
  have Hv := Lib.hid hv; clear hv
  have HF := Lib.hid hF; clear hF
  obtain ⟨n, hn⟩ : ∃ n, n = l.length := ⟨_, rfl⟩
  have Hn := Lib.hid hn
  rw [← hn] at hl ⊢
  clear hn
  go_enter Tryz.func145, Tryz.ntmps145
  go_wp2
  go_loopw [5] (fun i wr => ∃ k : Nat, k ≤ n ∧ i = .int .i64 k ∧ (l.take k).all B = true ∧ Fr w wr) (fun i _ => n - (intOf i).toNat)
  case atStart => exact ⟨0, Nat.zero_le _, rfl, by simp, Fr.refl _⟩
  case round =>
    obtain ⟨k, hk, rfl, hall, hf⟩ := hrel
    have Hall := Lib.hid hall; clear hall
    by_cases hlt : k < n
    · have hkl : k < l.length := by rw [← Hn.out]; exact hlt
      obtain ⟨g, rfl, hg, c0, c1, c2, c3, c4⟩ := (Hv.out.fr hf).at hkl
      have hH := Lib.hid (HF.out l[k] (List.getElem_mem hkl))
      have hN := Lib.hid (fun h : B l[k] = true => all_take (B := B) hkl Hall.out h)
      have hB := Lib.hid (fun h : B l[k] = false => all_bad (B := B) hkl h)
      generalize l[k] = x at *
      cases hb : B x
      · have hv := Lib.hid (hB.out hb)
        rw [hb] at hH
        go_wp2_with fail
        refine (hH.out _).mono ?_
        rintro e w1 ⟨rfl, hf1⟩
        clear c0 c1 c2 c3 c4
        go_wp2
        go_ret
        exact ⟨by rw [hv.out]; rfl, hf.step hf1⟩
      · have hv := Lib.hid (hN.out hb)
        rw [hb] at hH
        go_wp2_with fail
        refine (hH.out _).mono ?_
        rintro e w1 ⟨rfl, hf1⟩
        clear c0 c1 c2 c3 c4
        go_wp2
        go_roundw
        case rel => exact ⟨k + 1, by omega, by go_num, hv.out, hf.step hf1⟩
        case measure => simp [intOf]; try omega
    · have hv := Lib.hid (show l.all B = true by have := Hall.out; rwa [List.take_of_length_le (by rw [← Hn.out]; omega)] at this)
      go_wp2
      go_ret
      exact ⟨by rw [hv.out]; rfl, hf⟩
end Go.Proofs.YtcmpfcijockmhaaGreatDoor
