import Derived.Test.YtcmpfcijockmhaaGreatDoorS11
set_option linter.unusedSimpArgs false
set_option linter.unusedVariables false
namespace Go.Proofs.YtcmpfcijockmhaaGreatDoor
open Go.RowKit
/-- A slice of texts that can be read. -/
def TL (w : World) (A : Option Addr) (l : List ByteArray) : Prop :=
  l.length ≤ 1000000 ∧ (0 < l.length → ∃ g, A = some ⟨g, 0, none⟩ ∧ g < w.heap.size ∧ ∀ i x, l[i]? = some x → w.cell? ⟨g, i, none⟩ = some (.string x))
theorem TL.fr {w w' : World} {A : Option Addr} {l : List ByteArray} (h : TL w A l) (hf : Fr w w') : TL w' A l :=
  ⟨h.1, fun hn => by
    obtain ⟨g, e, hg, hc⟩ := h.2 hn
    exact ⟨g, e, Nat.lt_of_lt_of_le hg hf.size, fun i x hx => (hf.cells.1 _ _ hg).trans (hc i x hx)⟩⟩
theorem TL.at {w : World} {A : Option Addr} {l : List ByteArray} (h : TL w A l) {i : Nat} (hi : i < l.length) :
    ∃ g, A = some ⟨g, 0, none⟩ ∧ g < w.heap.size ∧ w.cell? ⟨g, i, none⟩ = some (.string l[i]) := by
  obtain ⟨g, e, hg, hc⟩ := h.2 (by omega)
  exact ⟨g, e, hg, hc i _ (List.getElem?_eq_getElem hi)⟩
/-- Texts as cells. -/
def strs (l : List ByteArray) : List Value := l.map Value.string
theorem TL.own {w : World} {base : Nat} {e : TypeId} {v : Value} {l : List ByteArray} (h : w.ownsRow base e 1 v l.length (strs l)) (hl : l.length ≤ 1000000) :
    ∃ A cap, v = .slice A l.length cap ∧ TL w A l := by
  rcases h.2 with ⟨rfl, hn⟩ | ⟨g, cap, cur, rfl, hb, hg, hnc, hcm, hcs, htake⟩
  · exact ⟨none, 0, by rw [hn], hl, fun h => by omega⟩
  · refine ⟨_, cap, rfl, hl, fun _ => ⟨g, rfl, (Array.getElem?_eq_some_iff.1 hg).1, fun i x hx => ?_⟩⟩
    have := h.cells (g := g) rfl i (.string x) (by simp [strs, hx])
    rwa [add_zero_off] at this
theorem TL.of {w : World} {base : Nat} {e : TypeId} {A : Option Addr} {n cap : Nat} {l : List ByteArray} (h : w.ownsRow base e 1 (.slice A n cap) l.length (strs l)) (hl : l.length ≤ 1000000) : TL w A l := by
  obtain ⟨A', cap', hA, hT⟩ := TL.own h hl
  injection hA with h1 _ _
  rw [h1]; exact hT
theorem own_set {w : World} {base : Nat} {e : TypeId} {sz : Nat} {v : Value} {n : Nat} {xs : List Value} {p : Addr} {u : Value} (h : w.ownsRow base e sz v n xs) (hp : p.block < base) : (w.setCell p u).ownsRow base e sz v n xs := by
  refine ⟨h.1, ?_⟩
  rcases h.2 with ⟨rfl, hn⟩ | ⟨g, cap, cur, rfl, hb, hg, hnc, hcm, hcs, htake⟩
  · exact .inl ⟨rfl, hn⟩
  · exact .inr ⟨g, cap, cur, rfl, hb, (Below.heap_setCell _ _ _ _ (by omega)).trans hg, hnc, hcm, hcs, htake⟩
theorem TL.of5 {w : World} {base : Nat} {e : TypeId} {A : Option Addr} {n m cap : Nat} {l : List ByteArray} (h : w.ownsRow base e 1 (.slice A n cap) m (strs l)) (hm : l.length = m) (hl : m ≤ 1000000)
    {p0 p1 p2 p3 p4 : Addr} {u0 u1 u2 u3 u4 : Value} (h0 : p0.block < base) (h1 : p1.block < base) (h2 : p2.block < base) (h3 : p3.block < base) (h4 : p4.block < base) :
    TL (((((w.setCell p0 u0).setCell p1 u1).setCell p2 u2).setCell p3 u3).setCell p4 u4) A l := by
  subst hm
  exact TL.of (own_set (own_set (own_set (own_set (own_set h h0) h1) h2) h3) h4) hl
set_option maxRecDepth 100000 in
set_option maxHeartbeats 2000000 in
theorem First_none (A : Option Addr) (cap : Nat) (l : List SVal) (w : World) (hv : VL w A l) (hk : ∀ x ∈ l, x.k ≠ 4 ∧ x.k ≠ 5 ∧ x.k ≠ 6) :
    Calls Tryz.prog 206 #[.slice A l.length cap] w fun e w' => e = .returned (.tuple #[sv 0 0 0 mt, .bool false]) ∧ Fr w w' := by
  have hl := hv.1
  have Hv := Lib.hid hv; clear hv
  have HF := Lib.hid hk; clear hk
  obtain ⟨n, hn⟩ : ∃ n, n = l.length := ⟨_, rfl⟩
  have Hn := Lib.hid hn
  rw [← hn] at hl ⊢
  clear hn
  go_enter Tryz.func206, Tryz.ntmps206
  go_wp2_with fail
  rw [Hn.out]
  refine (Flat_flat A cap l _ (Hv.out.fr (by repeat (first | (with_reducible exact Fr.refl _) | ((with_reducible refine Fr.set ?_ ?_ _); focus (simp; done)) | (with_reducible refine Fr.alloc ?_ _) | (with_reducible refine Fr.drew ?_) | (with_reducible refine Fr.step ?_ (by assumption))))) (fun x hx => (HF.out x hx).2.1)).mono ?_
  rintro e w1 ⟨A', cap', rfl, hV, hf1⟩
  rw [← Hn.out]
  have HV := Lib.hid hV; clear hV
  obtain ⟨hc1, hz1⟩ := hf1.cells
  have hlt1 : w.heap.size < w1.heap.size := by have := hf1.size; simp at this; omega
  go_wp2
  go_loop [4] (fun i => ∃ k : Nat, k ≤ n ∧ i = .int .i64 k) (fun i => n - (intOf i).toNat)
  case atStart => exact ⟨0, Nat.zero_le _, rfl⟩
  case round =>
    obtain ⟨k, hk, rfl⟩ := hrel
    by_cases hlt : k < n
    · have hkl : k < l.length := by rw [← Hn.out]; exact hlt
      obtain ⟨g, rfl, hg, c0, c1, c2, c3, c4⟩ := HV.out.at hkl
      have hH : l[k].k ≠ 6 := (HF.out l[k] (List.getElem_mem hkl)).2.2
      generalize hx : l[k] = x at *
      go_wp2
      go_round
      case rel => exact ⟨k + 1, by omega, by simp⟩
      case measure => simp [intOf]; omega
    · go_wp2
      go_loop [5] (fun i => ∃ k : Nat, k ≤ n ∧ i = .int .i64 k) (fun i => n - (intOf i).toNat)
      case atStart => exact ⟨0, Nat.zero_le _, rfl⟩
      case round =>
        obtain ⟨k, hk, rfl⟩ := hrel
        by_cases hlt : k < n
        · have hkl : k < l.length := by rw [← Hn.out]; exact hlt
          obtain ⟨g, rfl, hg, c0, c1, c2, c3, c4⟩ := HV.out.at hkl
          have hH : l[k].k ≠ 4 := (HF.out l[k] (List.getElem_mem hkl)).1
          generalize hx : l[k] = x at *
          go_wp2
          go_round
          case rel => exact ⟨k + 1, by omega, by simp⟩
          case measure => simp [intOf]; omega
        · go_wp2
          exact bodyPost_ret (v := .tuple #[sv 0 0 0 mt, .bool false]) (by simp [results, Tryz.results206, go_sem, sv, mt, *]) rfl ⟨rfl, (by repeat (first | (with_reducible exact Fr.refl _) | ((with_reducible refine Fr.set ?_ ?_ _); focus (simp; done)) | (with_reducible refine Fr.alloc ?_ _) | (with_reducible refine Fr.drew ?_) | (with_reducible refine Fr.step ?_ (by assumption))))⟩
set_option maxRecDepth 100000 in
set_option maxHeartbeats 1000000 in
theorem AsText_asc (s : ByteArray) (w : World) (hs : s.size ≤ maxLen) (ha : asc s.data.toList = true) :
    Calls Tryz.prog 151 #[(tx s).v] w fun e w' => e = .returned (tx s).v ∧ Fr w w' := by
  have Hs := Lib.hid hs; clear hs
  have Ha := Lib.hid ha; clear ha
  unfold tx SVal.v sv
  go_enter Tryz.func151, Tryz.ntmps151
  go_wp2_with fail
  refine (Ascii_any s _ Hs.out).mono ?_
  rintro e w1 ⟨rfl, rfl⟩
  rw [Ha.out]
  go_wp2
  exact bodyPost_ret (v := sv 2 0 0 s) (by simp [results, Tryz.results151, go_sem, sv, mt, *]) rfl ⟨rfl, (by repeat (first | (with_reducible exact Fr.refl _) | ((with_reducible refine Fr.set ?_ ?_ _); focus (simp; done)) | (with_reducible refine Fr.alloc ?_ _) | (with_reducible refine Fr.drew ?_) | (with_reducible refine Fr.step ?_ (by assumption))))⟩
end Go.Proofs.YtcmpfcijockmhaaGreatDoor
