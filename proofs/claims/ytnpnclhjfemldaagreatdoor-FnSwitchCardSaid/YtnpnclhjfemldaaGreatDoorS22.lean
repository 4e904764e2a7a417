import Derived.Test.YtnpnclhjfemldaaGreatDoorS21
set_option linter.unusedSimpArgs false
set_option linter.unusedVariables false
namespace Go.Proofs.YtnpnclhjfemldaaGreatDoor
open Go.RowKit
/-- A list of the package, its elements' blocks and values. -/
structure LS (w : World) (p : Nat) (bs : List Nat) (vs : List Value) : Prop where
  len : bs.length = vs.length
  hl : bs.length ≤ 1000000
  hp : p < w.heap.size
  hb : ∀ b ∈ bs, p < b ∧ b < w.heap.size
  nd : bs.Nodup
  r0 : w.cell? ⟨p, 0, none⟩ = some (.pointer (some ⟨bs.headD p, 0, none⟩))
  r1 : w.cell? ⟨p, 1, none⟩ = some (.pointer (some ⟨bs.getLastD p, 0, none⟩))
  r4 : w.cell? ⟨p, 4, none⟩ = some (.int .i64 bs.length)
  f : ∀ j, w.frozen? ⟨p, j, none⟩ = false
  fb : ∀ b ∈ bs, ∀ j, w.frozen? ⟨b, j, none⟩ = false
  el : ∀ i b v, bs[i]? = some b → vs[i]? = some v → w.cell? ⟨b, 0, none⟩ = some (.pointer (some ⟨bs.getD (i + 1) p, 0, none⟩)) ∧ w.cell? ⟨b, 2, none⟩ = some (.pointer (some ⟨p, 0, none⟩)) ∧
    w.cell? ⟨b, 3, none⟩ = some (.iface 58 v)
  rows : ∀ b, b = p ∨ b ∈ bs → ∃ c t, w.heap[b]? = some (.cells c t (0, 0))
theorem row_set {w : World} {b : Nat} {a : Addr} {v : Value} (h : ∃ c t, w.heap[b]? = some (.cells c t (0, 0))) (ha : a.spot = none) : ∃ c t, (w.setCell a v).heap[b]? = some (.cells c t (0, 0)) := by
  obtain ⟨c, t, h⟩ := h
  by_cases hb : b = a.block
  · subst hb
    obtain ⟨g, o, s⟩ := a
    simp at ha; subst ha
    exact ⟨_, _, heap_setCell_same w g o c t v h⟩
  · exact ⟨c, t, (Below.heap_setCell _ _ _ _ hb).trans h⟩
theorem LS.fr {w w' : World} {p : Nat} {bs : List Nat} {vs : List Value} (h : LS w p bs vs) (hf : Fr w w') : LS w' p bs vs where
  len := h.len
  hl := h.hl
  hp := Nat.lt_of_lt_of_le h.hp hf.size
  hb b hb := ⟨(h.hb b hb).1, Nat.lt_of_lt_of_le (h.hb b hb).2 hf.size⟩
  nd := h.nd
  r0 := (hf.cells.1 _ _ h.hp).trans h.r0
  r1 := (hf.cells.1 _ _ h.hp).trans h.r1
  r4 := (hf.cells.1 _ _ h.hp).trans h.r4
  f j := (hf.cells.2 _ _ h.hp).trans (h.f j)
  fb b hb j := (hf.cells.2 _ _ (h.hb b hb).2).trans (h.fb b hb j)
  el i b v hi hv := by
    have hb := (h.hb b (List.mem_of_getElem? hi)).2
    obtain ⟨h1, h2, h3⟩ := h.el i b v hi hv
    exact ⟨(hf.cells.1 _ _ hb).trans h1, (hf.cells.1 _ _ hb).trans h2, (hf.cells.1 _ _ hb).trans h3⟩
  rows b hb := by
    obtain ⟨c, t, h1⟩ := h.rows b hb
    exact ⟨c, t, (hf.block b (Array.getElem?_eq_some_iff.1 h1).1).trans h1⟩
theorem LS.new (w : World) (t : TypeId) : LS (w.alloc (.cells #[.pointer (some ⟨w.heap.size, 0, none⟩), .pointer (some ⟨w.heap.size, 0, none⟩), .pointer none, .nilIface, .int .i64 0] t)) w.heap.size [] [] where
  len := rfl
  hl := by simp
  hp := by simp
  hb := by simp
  nd := List.nodup_nil
  r0 := by simp [go_sem]
  r1 := by simp [go_sem]
  r4 := by simp [go_sem]
  f j := by simp [go_sem]
  fb := by simp
  el i b v h := by simp at h
  rows b hb := by
    rcases hb with rfl | hb
    · exact ⟨_, _, heap_alloc_new _ _⟩
    · simp at hb
set_option maxRecDepth 100000 in
set_option maxHeartbeats 1000000 in
theorem New_any (w : World) :
    Calls Tryz.prog 40 #[] w fun e w' => ∃ p, w.heap.size ≤ p ∧ e = .returned (.pointer (some ⟨p, 0, none⟩)) ∧ LS w' p [] [] ∧ Fr w w' := by
  go_enter Tryz.func40, Tryz.ntmps40
  go_wp2
  go_ret
  exact ⟨w.heap.size, Nat.le_refl _, rfl, LS.new w _, (Fr.refl _).alloc _⟩
theorem last_get {bs : List Nat} {p i : Nat} (hi : i < bs.length) (h : i + 1 = bs.length) : bs.getLastD p = bs[i] := by
  rw [List.getLastD_eq_getLast?, List.getLast?_eq_getElem?]
  have : bs.length - 1 = i := by omega
  rw [this, List.getElem?_eq_getElem hi]; rfl
theorem LS.last {w : World} {p : Nat} {bs : List Nat} {vs : List Value} (h : LS w p bs vs) :
    w.cell? ⟨bs.getLastD p, 0, none⟩ = some (.pointer (some ⟨p, 0, none⟩)) ∧ bs.getLastD p < w.heap.size ∧ p ≤ bs.getLastD p ∧ ∀ j, w.frozen? ⟨bs.getLastD p, j, none⟩ = false := by
  by_cases hb : bs.length = 0
  · have : bs = [] := List.length_eq_zero_iff.1 hb
    subst this
    exact ⟨h.r0, h.hp, Nat.le_refl _, h.f⟩
  · have hi : bs.length - 1 < bs.length := by omega
    rw [last_get hi (by omega)]
    have hm : bs[bs.length - 1] ∈ bs := List.getElem_mem hi
    have hv : bs.length - 1 < vs.length := by have := h.len; omega
    have h0 := (h.el _ _ _ (List.getElem?_eq_getElem hi) (List.getElem?_eq_getElem hv)).1
    rw [List.getD_eq_getElem?_getD, List.getElem?_eq_none (by omega)] at h0
    exact ⟨h0, (h.hb _ hm).2, Nat.le_of_lt (h.hb _ hm).1, h.fb _ hm⟩
theorem cset_o {w : World} {a b : Addr} {v : Value} (h : a ≠ b) : (w.setCell a v).cell? b = w.cell? b := World.cell?_setCell_other w a b v h
theorem cset_s {w : World} {a : Addr} {v u : Value} (h : w.cell? a = some u) : (w.setCell a v).cell? a = some v := World.cell?_setCell_same w a v h
theorem LS.push {w : World} {p q : Nat} {bs : List Nat} {vs : List Value} {v : Value} (t : TypeId) (h : LS w p bs vs) (hq : q = bs.getLastD p) (hl : bs.length < 1000000) :
    LS ((((w.setCell ⟨q, 0, none⟩ (.pointer (some ⟨w.heap.size, 0, none⟩))).setCell ⟨p, 1, none⟩ (.pointer (some ⟨w.heap.size, 0, none⟩))).setCell ⟨p, 4, none⟩ (.int .i64 ((bs.length : Int) + 1))).alloc
      (.cells #[.pointer (some ⟨p, 0, none⟩), .pointer (some ⟨q, 0, none⟩), .pointer (some ⟨p, 0, none⟩), .iface 58 v] t)) p (bs ++ [w.heap.size]) (vs ++ [v]) := by
  obtain ⟨hq0, hqs, hpq, hqf⟩ := h.last
  rw [← hq] at hq0 hqs hpq hqf
  have hp := h.hp
  obtain ⟨n, hn⟩ : ∃ n, n = w.heap.size := ⟨_, rfl⟩
  obtain ⟨w3, hw3⟩ : ∃ w3, w3 = ((w.setCell ⟨q, 0, none⟩ (.pointer (some ⟨w.heap.size, 0, none⟩))).setCell ⟨p, 1, none⟩ (.pointer (some ⟨w.heap.size, 0, none⟩))).setCell ⟨p, 4, none⟩ (.int .i64 ((bs.length : Int) + 1)) := ⟨_, rfl⟩
  have hsz : w3.heap.size = n := by rw [hw3, hn]; simp
  have c0 : ∀ b o, (b ≠ p ∨ (o ≠ 1 ∧ o ≠ 4)) → w3.cell? ⟨b, o, none⟩ = (w.setCell ⟨q, 0, none⟩ (.pointer (some ⟨n, 0, none⟩))).cell? ⟨b, o, none⟩ := by
    intro b o hbo
    rw [hw3, hn, cset_o (by simp; intro e1 e2; omega), cset_o (by simp; intro e1 e2; omega)]
  have c0' : ∀ b o, (b ≠ p ∨ (o ≠ 1 ∧ o ≠ 4)) → (b ≠ q ∨ o ≠ 0) → w3.cell? ⟨b, o, none⟩ = w.cell? ⟨b, o, none⟩ := by
    intro b o h1 h2
    rw [c0 b o h1, cset_o (by simp; intro e1 e2; omega)]
  have cq : (q = p → True) → w3.cell? ⟨q, 0, none⟩ = some (.pointer (some ⟨n, 0, none⟩)) := fun _ => by
    rw [c0 q 0 (.inr (by omega)), cset_s hq0]
  have c1 : w3.cell? ⟨p, 1, none⟩ = some (.pointer (some ⟨n, 0, none⟩)) := by
    rw [hw3, hn, cset_o (by simp)]
    exact cset_s (u := .pointer (some ⟨q, 0, none⟩)) (by rw [cset_o (by simp), hq]; exact h.r1)
  have c4 : w3.cell? ⟨p, 4, none⟩ = some (.int .i64 ((bs.length : Int) + 1)) := by
    rw [hw3]
    exact cset_s (u := .int .i64 bs.length) (by rw [cset_o (by simp), cset_o (by simp)]; exact h.r4)
  have rw3 : ∀ b : Nat, (∃ (c : Array Value) (t : TypeId), w.heap[b]? = some (Obj.cells c t (0, 0))) → ∃ (c : Array Value) (t : TypeId), w3.heap[b]? = some (Obj.cells c t (0, 0)) := by
    intro b h; rw [hw3]; exact row_set (row_set (row_set h rfl) rfl) rfl
  have fz : ∀ b o, w3.frozen? ⟨b, o, none⟩ = w.frozen? ⟨b, o, none⟩ := by
    intro b o; rw [hw3]; simp
  rw [← hw3, ← hn]
  rw [← hn] at hqs hp
  clear hw3
  have oldc : ∀ b o, b < n → (w3.alloc (.cells #[.pointer (some ⟨p, 0, none⟩), .pointer (some ⟨q, 0, none⟩), .pointer (some ⟨p, 0, none⟩), .iface 58 v] t)).cell? ⟨b, o, none⟩ = w3.cell? ⟨b, o, none⟩ :=
    fun b o hb => World.cell?_alloc_lt _ _ _ (by rw [hsz]; exact hb)
  have newc : ∀ o, (w3.alloc (.cells #[.pointer (some ⟨p, 0, none⟩), .pointer (some ⟨q, 0, none⟩), .pointer (some ⟨p, 0, none⟩), .iface 58 v] t)).cell? ⟨n, o, none⟩ =
      (#[Value.pointer (some ⟨p, 0, none⟩), .pointer (some ⟨q, 0, none⟩), .pointer (some ⟨p, 0, none⟩), .iface 58 v] : Array Value)[o]? :=
    fun o => by rw [← hsz]; exact World.cell?_alloc_new _ _ _ _
  refine ⟨by simp [h.len], by simp; omega, by simp; omega, ?_, ?_, ?_, ?_, ?_, ?_, ?_, ?_, ?_⟩
  · intro b hb
    simp at hb
    rcases hb with hb | rfl
    · have := h.hb b hb; simp; omega
    · simp; omega
  · rw [List.nodup_append]
    refine ⟨h.nd, by simp, fun a ha b hb => ?_⟩
    have h1 := (h.hb a ha).2
    simp at hb; subst hb; omega
  · rw [oldc p 0 hp]
    by_cases hb : bs = []
    · subst hb
      have : q = p := hq
      subst this
      rw [cq (fun _ => trivial)]; rfl
    · have hqp : q ≠ p := by
        have hlen : 0 < bs.length := List.length_pos_iff.2 hb
        rw [hq, last_get (i := bs.length - 1) (by omega) (by omega)]
        have := (h.hb _ (List.getElem_mem (show bs.length - 1 < bs.length by omega))).1
        omega
      rw [c0' p 0 (.inr (by omega)) (.inl (fun e => hqp e.symm)), h.r0]
      cases bs with
      | nil => exact absurd rfl hb
      | cons x l => rfl
  · rw [oldc p 1 hp, c1]
    simp
  · rw [oldc p 4 hp, c4]
    simp
  · intro j
    by_cases hj : p < n
    · rw [World.frozen?_alloc_old _ _ _ (by rw [hsz]; exact Nat.ne_of_lt hj), fz]; exact h.f j
    · omega
  · intro b hb j
    simp at hb
    rcases hb with hb | rfl
    · rw [World.frozen?_alloc_old _ _ _ (by rw [hsz]; exact Nat.ne_of_lt (by rw [hn]; exact (h.hb b hb).2)), fz]; exact h.fb b hb j
    · rw [← hsz]; exact World.frozen?_alloc_new _ _ _ _
  · intro i b v' hi hv
    by_cases hlt : i < bs.length
    · have hlv : i < vs.length := by rw [← h.len]; exact hlt
      rw [List.getElem?_append_left hlt] at hi
      rw [List.getElem?_append_left hlv] at hv
      have hbm := h.hb b (List.mem_of_getElem? hi)
      obtain ⟨e0, e2, e3⟩ := h.el i b v' hi hv
      have hbn : b < n := by rw [hn]; exact hbm.2
      rw [oldc b 0 hbn, oldc b 2 hbn, oldc b 3 hbn]
      refine ⟨?_, by rw [c0' b 2 (.inl (by omega)) (.inr (by omega))]; exact e2, by rw [c0' b 3 (.inl (by omega)) (.inr (by omega))]; exact e3⟩
      have hbi : b = bs[i] := by rw [List.getElem?_eq_getElem hlt] at hi; injection hi with hi; exact hi.symm
      by_cases hl1 : i + 1 = bs.length
      · have : b = q := by rw [hq, last_get hlt hl1, hbi]
        rw [this, cq (fun _ => trivial), List.getD_eq_getElem?_getD, List.getElem?_append_right (by omega), hl1]
        simp
      · have hbq : b ≠ q := by
          intro e
          have hj : bs.length - 1 < bs.length := by omega
          rw [hbi, hq, last_get hj (by omega)] at e
          have := (List.getElem_inj h.nd).1 e
          omega
        rw [c0' b 0 (.inl (by omega)) (.inl hbq), e0, List.getD_eq_getElem?_getD, List.getD_eq_getElem?_getD, List.getElem?_append_left (by omega)]
    · have hil : i = bs.length := by
        have := (List.getElem?_eq_some_iff.1 hi).1
        simp at this; omega
      subst hil
      rw [List.getElem?_append_right (Nat.le_refl _)] at hi
      simp at hi
      subst hi
      rw [h.len, List.getElem?_append_right (Nat.le_refl _)] at hv
      simp at hv
      subst hv
      rw [newc 0, newc 2, newc 3]
      refine ⟨?_, rfl, rfl⟩
      rw [List.getD_eq_getElem?_getD, List.getElem?_eq_none (by simp)]
      rfl
  · intro b hb
    by_cases hbn : b = n
    · subst hbn
      rw [← hsz]
      exact ⟨_, _, heap_alloc_new _ _⟩
    · have hb' : b = p ∨ b ∈ bs := by
        rcases hb with h1 | h1
        · exact .inl h1
        · simp at h1
          rcases h1 with h1 | h1
          · exact .inr h1
          · exact absurd h1 hbn
      obtain ⟨c, t', h1⟩ := rw3 b (h.rows b hb')
      exact ⟨c, t', (heap_alloc_old _ _ (Array.getElem?_eq_some_iff.1 h1).1).trans h1⟩
set_option maxRecDepth 100000 in
set_option maxHeartbeats 1000000 in
theorem PushBack_any (w : World) (p : Nat) (bs : List Nat) (vs : List Value) (cs : Array Value) (hL : LS w p bs vs) (hb : bs.length < 1000000) :
    Calls Tryz.prog 41 #[.pointer (some ⟨p, 0, none⟩), .iface 58 (.agg cs)] w fun e w' =>
      (∃ a, e = .returned (.pointer a)) ∧ (∃ b, LS w' p (bs ++ [b]) (vs ++ [.agg cs])) ∧ Below p w w' := by
  obtain ⟨q, hq⟩ : ∃ q, q = bs.getLastD p := ⟨_, rfl⟩
  have r0 := hL.r0
  have r1 := hL.r1
  have r4 := hL.r4
  have hp := hL.hp
  have f := hL.f
  rw [← hq] at r1
  obtain ⟨hq0, hqs, hpq, hqf⟩ := hL.last
  rw [← hq] at hq0 hqs hpq hqf
  have HL := Lib.hid hL; clear hL
  have Hq := Lib.hid hq; clear hq
  generalize bs.headD p = hd at *
  go_enter Tryz.func41, Tryz.ntmps41
  go_wp2
  go_end0
  go_wp2
  go_ret
  exact ⟨⟨_, rfl⟩, ⟨_, LS.push _ HL.out Hq.out hb⟩, (((Below.refl _ _).setCell (by simpa using hpq) _ |>.setCell (by simp) _).setCell (by simp) _).alloc (by simp; omega) _⟩
end Go.Proofs.YtnpnclhjfemldaaGreatDoor
