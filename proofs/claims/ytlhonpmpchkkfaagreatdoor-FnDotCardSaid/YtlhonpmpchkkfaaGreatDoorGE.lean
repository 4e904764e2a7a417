import Derived.Test.YtlhonpmpchkkfaaGreatDoorGD
set_option linter.unusedSimpArgs false
set_option linter.unusedVariables false
namespace Go.Proofs.YtlhonpmpchkkfaaGreatDoor
open Go.RowKit
/-- A list of the package, its elements' blocks and values. -/
structure LS (w : World) (p : Nat) (bs : List Nat) (vs : List Value) : Prop where
  len : bs.length = vs.length
  hl : bs.length ≤ 1000000
  hp : p < w.heap.size
  hb : ∀ b ∈ bs, p < b ∧ b < w.heap.size
  nd : bs.Nodup
  r0 : w.cell? ⟨p, 0, none⟩ = some (.pointer (some ⟨bs.headD p, 0, none⟩))
  r1 : w.cell? ⟨p, 1, none⟩ = some (.pointer (some ⟨bs.getLastD p, 0, none⟩))
  r4 : w.cell? ⟨p, 4, none⟩ = some (.int .i64 bs.length)
  f : ∀ j, w.frozen? ⟨p, j, none⟩ = false
  fb : ∀ b ∈ bs, ∀ j, w.frozen? ⟨b, j, none⟩ = false
  el : ∀ i b v, bs[i]? = some b → vs[i]? = some v → w.cell? ⟨b, 0, none⟩ = some (.pointer (some ⟨bs.getD (i + 1) p, 0, none⟩)) ∧ w.cell? ⟨b, 2, none⟩ = some (.pointer (some ⟨p, 0, none⟩)) ∧
    w.cell? ⟨b, 3, none⟩ = some (.iface 54 v)
  rows : ∀ b, b = p ∨ b ∈ bs → ∃ c t, w.heap[b]? = some (.cells c t (0, 0))
theorem row_set {w : World} {b : Nat} {a : Addr} {v : Value} (h : ∃ c t, w.heap[b]? = some (.cells c t (0, 0))) (ha : a.spot = none) : ∃ c t, (w.setCell a v).heap[b]? = some (.cells c t (0, 0)) := by
  obtain ⟨c, t, h⟩ := h
  by_cases hb : b = a.block
  · subst hb
    obtain ⟨g, o, s⟩ := a
    simp at ha; subst ha
    exact ⟨_, _, heap_setCell_same w g o c t v h⟩
  · exact ⟨c, t, (Below.heap_setCell _ _ _ _ hb).trans h⟩
theorem LS.fr {w w' : World} {p : Nat} {bs : List Nat} {vs : List Value} (h : LS w p bs vs) (hf : Fr w w') : LS w' p bs vs where
  len := h.len
  hl := h.hl
  hp := Nat.lt_of_lt_of_le h.hp hf.size
  hb b hb := ⟨(h.hb b hb).1, Nat.lt_of_lt_of_le (h.hb b hb).2 hf.size⟩
  nd := h.nd
  r0 := (hf.cells.1 _ _ h.hp).trans h.r0
  r1 := (hf.cells.1 _ _ h.hp).trans h.r1
  r4 := (hf.cells.1 _ _ h.hp).trans h.r4
  f j := (hf.cells.2 _ _ h.hp).trans (h.f j)
  fb b hb j := (hf.cells.2 _ _ (h.hb b hb).2).trans (h.fb b hb j)
  el i b v hi hv := by
    have hb := (h.hb b (List.mem_of_getElem? hi)).2
    obtain ⟨h1, h2, h3⟩ := h.el i b v hi hv
    exact ⟨(hf.cells.1 _ _ hb).trans h1, (hf.cells.1 _ _ hb).trans h2, (hf.cells.1 _ _ hb).trans h3⟩
  rows b hb := by
    obtain ⟨c, t, h1⟩ := h.rows b hb
    exact ⟨c, t, (hf.block b (Array.getElem?_eq_some_iff.1 h1).1).trans h1⟩
theorem LS.new (w : World) (t : TypeId) : LS (w.alloc (.cells #[.pointer (some ⟨w.heap.size, 0, none⟩), .pointer (some ⟨w.heap.size, 0, none⟩), .pointer none, .nilIface, .int .i64 0] t)) w.heap.size [] [] where
  len := rfl
  hl := by simp
  hp := by simp
  hb := by simp
  nd := List.nodup_nil
  r0 := by simp [go_sem]
  r1 := by simp [go_sem]
  r4 := by simp [go_sem]
  f j := by simp [go_sem]
  fb := by simp
  el i b v h := by simp at h
  rows b hb := by
    rcases hb with rfl | hb
    · exact ⟨_, _, heap_alloc_new _ _⟩
    · simp at hb
set_option maxRecDepth 100000 in
set_option maxHeartbeats 1000000 in
theorem New_any (w : World) :
    Calls Tryz.prog 37 #[] w fun e w' => ∃ p, w.heap.size ≤ p ∧ e = .returned (.pointer (some ⟨p, 0, none⟩)) ∧ LS w' p [] [] ∧ Fr w w' := by
  go_enter Tryz.func37, Tryz.ntmps37
  go_wp2
  go_ret
  exact ⟨w.heap.size, Nat.le_refl _, rfl, LS.new w _, (Fr.refl _).alloc _⟩
theorem last_get {bs : List Nat} {p i : Nat} (hi : i < bs.length) (h : i + 1 = bs.length) : bs.getLastD p = bs[i] := by
  rw [List.getLastD_eq_getLast?, List.getLast?_eq_getElem?]
  have : bs.length - 1 = i := by omega
  rw [this, List.getElem?_eq_getElem hi]; rfl
theorem LS.last {w : World} {p : Nat} {bs : List Nat} {vs : List Value} (h : LS w p bs vs) :
    w.cell? ⟨bs.getLastD p, 0, none⟩ = some (.pointer (some ⟨p, 0, none⟩)) ∧ bs.getLastD p < w.heap.size ∧ p ≤ bs.getLastD p ∧ ∀ j, w.frozen? ⟨bs.getLastD p, j, none⟩ = false := by
  by_cases hb : bs.length = 0
  · have : bs = [] := List.length_eq_zero_iff.1 hb
    subst this
    exact ⟨h.r0, h.hp, Nat.le_refl _, h.f⟩
  · have hi : bs.length - 1 < bs.length := by omega
    rw [last_get hi (by omega)]
    have hm : bs[bs.length - 1] ∈ bs := List.getElem_mem hi
    have hv : bs.length - 1 < vs.length := by have := h.len; omega
    have h0 := (h.el _ _ _ (List.getElem?_eq_getElem hi) (List.getElem?_eq_getElem hv)).1
    rw [List.getD_eq_getElem?_getD, List.getElem?_eq_none (by omega)] at h0
    exact ⟨h0, (h.hb _ hm).2, Nat.le_of_lt (h.hb _ hm).1, h.fb _ hm⟩
theorem cset_o {w : World} {a b : Addr} {v : Value} (h : a ≠ b) : (w.setCell a v).cell? b = w.cell? b := World.cell?_setCell_other w a b v h
theorem cset_s {w : World} {a : Addr} {v u : Value} (h : w.cell? a = some u) : (w.setCell a v).cell? a = some v := World.cell?_setCell_same w a v h
theorem LS.push {w : World} {p q : Nat} {bs : List Nat} {vs : List Value} {v : Value} (t : TypeId) (h : LS w p bs vs) (hq : q = bs.getLastD p) (hl : bs.length < 1000000) :
    LS ((((w.setCell ⟨q, 0, none⟩ (.pointer (some ⟨w.heap.size, 0, none⟩))).setCell ⟨p, 1, none⟩ (.pointer (some ⟨w.heap.size, 0, none⟩))).setCell ⟨p, 4, none⟩ (.int .i64 ((bs.length : Int) + 1))).alloc
      (.cells #[.pointer (some ⟨p, 0, none⟩), .pointer (some ⟨q, 0, none⟩), .pointer (some ⟨p, 0, none⟩), .iface 54 v] t)) p (bs ++ [w.heap.size]) (vs ++ [v]) := by
  obtain ⟨hq0, hqs, hpq, hqf⟩ := h.last
  rw [← hq] at hq0 hqs hpq hqf
  have hp := h.hp
  obtain ⟨n, hn⟩ : ∃ n, n = w.heap.size := ⟨_, rfl⟩
  obtain ⟨w3, hw3⟩ : ∃ w3, w3 = ((w.setCell ⟨q, 0, none⟩ (.pointer (some ⟨w.heap.size, 0, none⟩))).setCell ⟨p, 1, none⟩ (.pointer (some ⟨w.heap.size, 0, none⟩))).setCell ⟨p, 4, none⟩ (.int .i64 ((bs.length : Int) + 1)) := ⟨_, rfl⟩
  have hsz : w3.heap.size = n := by rw [hw3, hn]; simp
  have c0 : ∀ b o, (b ≠ p ∨ (o ≠ 1 ∧ o ≠ 4)) → w3.cell? ⟨b, o, none⟩ = (w.setCell ⟨q, 0, none⟩ (.pointer (some ⟨n, 0, none⟩))).cell? ⟨b, o, none⟩ := by
    intro b o hbo
    rw [hw3, hn, cset_o (by simp; intro e1 e2; omega), cset_o (by simp; intro e1 e2; omega)]
  have c0' : ∀ b o, (b ≠ p ∨ (o ≠ 1 ∧ o ≠ 4)) → (b ≠ q ∨ o ≠ 0) → w3.cell? ⟨b, o, none⟩ = w.cell? ⟨b, o, none⟩ := by
    intro b o h1 h2
    rw [c0 b o h1, cset_o (by simp; intro e1 e2; omega)]
  have cq : (q = p → True) → w3.cell? ⟨q, 0, none⟩ = some (.pointer (some ⟨n, 0, none⟩)) := fun _ => by
    rw [c0 q 0 (.inr (by omega)), cset_s hq0]
  have c1 : w3.cell? ⟨p, 1, none⟩ = some (.pointer (some ⟨n, 0, none⟩)) := by
    rw [hw3, hn, cset_o (by simp)]
    exact cset_s (u := .pointer (some ⟨q, 0, none⟩)) (by rw [cset_o (by simp), hq]; exact h.r1)
  have c4 : w3.cell? ⟨p, 4, none⟩ = some (.int .i64 ((bs.length : Int) + 1)) := by
    rw [hw3]
    exact cset_s (u := .int .i64 bs.length) (by rw [cset_o (by simp), cset_o (by simp)]; exact h.r4)
  have rw3 : ∀ b : Nat, (∃ (c : Array Value) (t : TypeId), w.heap[b]? = some (Obj.cells c t (0, 0))) → ∃ (c : Array Value) (t : TypeId), w3.heap[b]? = some (Obj.cells c t (0, 0)) := by
    intro b h; rw [hw3]; exact row_set (row_set (row_set h rfl) rfl) rfl
  have fz : ∀ b o, w3.frozen? ⟨b, o, none⟩ = w.frozen? ⟨b, o, none⟩ := by
    intro b o; rw [hw3]; simp
  rw [← hw3, ← hn]
  rw [← hn] at hqs hp
  clear hw3
  have oldc : ∀ b o, b < n → (w3.alloc (.cells #[.pointer (some ⟨p, 0, none⟩), .pointer (some ⟨q, 0, none⟩), .pointer (some ⟨p, 0, none⟩), .iface 54 v] t)).cell? ⟨b, o, none⟩ = w3.cell? ⟨b, o, none⟩ :=
    fun b o hb => World.cell?_alloc_lt _ _ _ (by rw [hsz]; exact hb)
  have newc : ∀ o, (w3.alloc (.cells #[.pointer (some ⟨p, 0, none⟩), .pointer (some ⟨q, 0, none⟩), .pointer (some ⟨p, 0, none⟩), .iface 54 v] t)).cell? ⟨n, o, none⟩ =
      (#[Value.pointer (some ⟨p, 0, none⟩), .pointer (some ⟨q, 0, none⟩), .pointer (some ⟨p, 0, none⟩), .iface 54 v] : Array Value)[o]? :=
    fun o => by rw [← hsz]; exact World.cell?_alloc_new _ _ _ _
  refine ⟨by simp [h.len], by simp; omega, by simp; omega, ?_, ?_, ?_, ?_, ?_, ?_, ?_, ?_, ?_⟩
  · intro b hb
    simp at hb
    rcases hb with hb | rfl
    · have := h.hb b hb; simp; omega
    · simp; omega
  · rw [List.nodup_append]
    refine ⟨h.nd, by simp, fun a ha b hb => ?_⟩
    have h1 := (h.hb a ha).2
    simp at hb; subst hb; omega
  · rw [oldc p 0 hp]
    by_cases hb : bs = []
    · subst hb
      have : q = p := hq
      subst this
      rw [cq (fun _ => trivial)]; rfl
    · have hqp : q ≠ p := by
        have hlen : 0 < bs.length := List.length_pos_iff.2 hb
        rw [hq, last_get (i := bs.length - 1) (by omega) (by omega)]
        have := (h.hb _ (List.getElem_mem (show bs.length - 1 < bs.length by omega))).1
        omega
      rw [c0' p 0 (.inr (by omega)) (.inl (fun e => hqp e.symm)), h.r0]
      cases bs with
      | nil => exact absurd rfl hb
      | cons x l => rfl
  · rw [oldc p 1 hp, c1]
    simp
  · rw [oldc p 4 hp, c4]
    simp
  · intro j
    by_cases hj : p < n
    · rw [World.frozen?_alloc_old _ _ _ (by rw [hsz]; exact Nat.ne_of_lt hj), fz]; exact h.f j
    · omega
  · intro b hb j
    simp at hb
    rcases hb with hb | rfl
    · rw [World.frozen?_alloc_old _ _ _ (by rw [hsz]; exact Nat.ne_of_lt (by rw [hn]; exact (h.hb b hb).2)), fz]; exact h.fb b hb j
    · rw [← hsz]; exact World.frozen?_alloc_new _ _ _ _
  · intro i b v' hi hv
    by_cases hlt : i < bs.length
    · have hlv : i < vs.length := by rw [← h.len]; exact hlt
      rw [List.getElem?_append_left hlt] at hi
      rw [List.getElem?_append_left hlv] at hv
      have hbm := h.hb b (List.mem_of_getElem? hi)
      obtain ⟨e0, e2, e3⟩ := h.el i b v' hi hv
      have hbn : b < n := by rw [hn]; exact hbm.2
      rw [oldc b 0 hbn, oldc b 2 hbn, oldc b 3 hbn]
      refine ⟨?_, by rw [c0' b 2 (.inl (by omega)) (.inr (by omega))]; exact e2, by rw [c0' b 3 (.inl (by omega)) (.inr (by omega))]; exact e3⟩
      have hbi : b = bs[i] := by rw [List.getElem?_eq_getElem hlt] at hi; injection hi with hi; exact hi.symm
      by_cases hl1 : i + 1 = bs.length
      · have : b = q := by rw [hq, last_get hlt hl1, hbi]
        rw [this, cq (fun _ => trivial), List.getD_eq_getElem?_getD, List.getElem?_append_right (by omega), hl1]
        simp
      · have hbq : b ≠ q := by
          intro e
          have hj : bs.length - 1 < bs.length := by omega
          rw [hbi, hq, last_get hj (by omega)] at e
          have := (List.getElem_inj h.nd).1 e
          omega
        rw [c0' b 0 (.inl (by omega)) (.inl hbq), e0, List.getD_eq_getElem?_getD, List.getD_eq_getElem?_getD, List.getElem?_append_left (by omega)]
    · have hil : i = bs.length := by
        have := (List.getElem?_eq_some_iff.1 hi).1
        simp at this; omega
      subst hil
      rw [List.getElem?_append_right (Nat.le_refl _)] at hi
      simp at hi
      subst hi
      rw [h.len, List.getElem?_append_right (Nat.le_refl _)] at hv
      simp at hv
      subst hv
      rw [newc 0, newc 2, newc 3]
      refine ⟨?_, rfl, rfl⟩
      rw [List.getD_eq_getElem?_getD, List.getElem?_eq_none (by simp)]
      rfl
  · intro b hb
    by_cases hbn : b = n
    · subst hbn
      rw [← hsz]
      exact ⟨_, _, heap_alloc_new _ _⟩
    · have hb' : b = p ∨ b ∈ bs := by
        rcases hb with h1 | h1
        · exact .inl h1
        · simp at h1
          rcases h1 with h1 | h1
          · exact .inr h1
          · exact absurd h1 hbn
      obtain ⟨c, t', h1⟩ := rw3 b (h.rows b hb')
      exact ⟨c, t', (heap_alloc_old _ _ (Array.getElem?_eq_some_iff.1 h1).1).trans h1⟩
end Go.Proofs.YtlhonpmpchkkfaaGreatDoor
namespace Go.Proofs.YtlhonpmpchkkfaaGreatDoor
open Go.RowKit
open Fl
open Ieee (double)
theorem below_le {B p : Nat} {w w' : World} (h : Below p w w') (hb : B ≤ p) : Below B w w' := ⟨h.os, h.tape, h.output, h.size, fun i hi => h.block i (by omega)⟩
theorem Fr.tail {w w1 w2 : World} {p : Nat} (h : Fr w w1) (h2 : Below p w1 w2) (hp : w.heap.size ≤ p) : Fr w w2 := Below.trans h (below_le h2 hp)
end Go.Proofs.YtlhonpmpchkkfaaGreatDoor
namespace Go.Proofs.YtlhonpmpchkkfaaGreatDoor
open Go.RowKit
open Fl
open Ieee (double)

end Go.Proofs.YtlhonpmpchkkfaaGreatDoor
namespace Go.Proofs.YtlhonpmpchkkfaaGreatDoor
open Go.RowKit
open Fl
open Ieee (double)
@[go_sem] theorem assert_fa (W : World) (v : Value) : (Instr.typeAssert (.iface 54 v) 20 54 false).run Tryz.prog W = .ok v W := by kernel_rfl
set_option maxRecDepth 100000 in
set_option maxHeartbeats 1000000 in
theorem Len_any (w : World) (p : Nat) (bs : List Nat) (vs : List Value) (hL : LS w p bs vs) :
    Calls Tryz.prog 29 #[.pointer (some ⟨p, 0, none⟩)] w fun e w' => e = .returned (.int .i64 bs.length) ∧ w = w' := by
  have r4 := hL.r4
  generalize bs.length = n at *
  clear hL
  go_enter Tryz.func29, Tryz.ntmps29
  go_wp2
  go_ret
  exact ⟨rfl, rfl⟩
set_option maxRecDepth 100000 in
set_option maxHeartbeats 1000000 in
theorem Front_any (w : World) (p b : Nat) (bs : List Nat) (vs : List Value) (hL : LS w p (b :: bs) vs) :
    Calls Tryz.prog 31 #[.pointer (some ⟨p, 0, none⟩)] w fun e w' => e = .returned (.pointer (some ⟨b, 0, none⟩)) ∧ w = w' := by
  have r4 := hL.r4
  have r0 := hL.r0
  simp only [List.headD_cons] at r0
  have hl := hL.hl
  obtain ⟨n, hn⟩ : ∃ n, n = (b :: bs).length := ⟨_, rfl⟩
  rw [← hn] at r4 hl
  have hn0 : 0 < n := by rw [hn]; simp
  clear hL hn
  go_enter Tryz.func31, Tryz.ntmps31
  go_wp2
  go_ret
  exact ⟨rfl, rfl⟩
set_option maxRecDepth 100000 in
set_option maxHeartbeats 1000000 in
theorem doorArg_num (x : Nat) (w : World) :
    Calls Tryz.prog 21 #[fa 1 x mt mt] w fun e w' => e = .returned (iv 1 x mt) ∧ Fr w w' := by
  unfold fa
  go_enter Tryz.func21, Tryz.ntmps21
  go_wp2
  exact bodyPost_ret (v := .agg #[.int .i64 1, .float .f64 x, .string mt, .slice none 0 0]) (by simp [results, Tryz.results21, go_sem, sv, mt, *]) rfl ⟨rfl, (by repeat (first | (with_reducible exact Fr.refl _) | ((with_reducible refine Fr.set ?_ ?_ _); focus (simp; done)) | (with_reducible refine Fr.alloc ?_ _) | (with_reducible refine Fr.drew ?_) | (with_reducible refine Fr.step ?_ (by assumption))))⟩
set_option maxRecDepth 100000 in
set_option maxHeartbeats 1000000 in
theorem out_any (k : Int) (x : Nat) (s : ByteArray) (w : World) :
    Calls Tryz.prog 13 #[iv k x s] w fun e w' => e = .returned (iv k x s) ∧ Fr w w' := by
  unfold iv
  go_enter Tryz.func13, Tryz.ntmps13
  go_wp2
  go_loop [19] (fun i => i = .int .i64 0) (fun i => 0)
  case atStart => rfl
  case round =>
    subst hrel
    go_wp2
    exact bodyPost_ret (v := .agg #[.int .i64 k, .float .f64 x, .string s, .slice none 0 0]) (by simp [results, Tryz.results13, go_sem, sv, mt, *]) rfl ⟨rfl, (by repeat (first | (with_reducible exact Fr.refl _) | ((with_reducible refine Fr.set ?_ ?_ _); focus (simp; done)) | (with_reducible refine Fr.alloc ?_ _) | (with_reducible refine Fr.drew ?_) | (with_reducible refine Fr.step ?_ (by assumption))))⟩
end Go.Proofs.YtlhonpmpchkkfaaGreatDoor
