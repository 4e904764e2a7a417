import Derived.Test.YtlhonpmpchkkfaaGreatDoorD11
set_option linter.unusedSimpArgs false
set_option linter.unusedVariables false
/- A matrix of arguments as a matrix of numbers. -/
namespace Go.Proofs.YtlhonpmpchkkfaaGreatDoor
open Go.RowKit
open Fl
open Ieee (double)
/-- One element more, laid first and filled later. -/
theorem OR.later {α : Type} {E : Say α} (L : Lie E) {w W : World} {base : Nat} {t : TypeId} {sz : Nat} {v : Value} {ys : List α} {k : Nat} {css : List (List Value)} {c : List Value} {S : Nat → Prop} {g cap : Nat} (hk : k < ys.length)
    (h : OR E w base t sz v (ys.take k) css) (hW : ∀ b, base ≤ b → b < w.heap.size → some b ≠ v.ownBlock → W.heap[b]? = w.heap[b]?)
    (hown : W.ownsRow base t sz (.slice (some ⟨g, 0, none⟩) (k + 1) cap) (k + 1) (css.flatten ++ c)) (hat : v.ownBlock = some g ∨ w.heap.size ≤ g) (hE : E W S ys[k] c) (hc : c.length = sz) (hS : ∀ b, S b → base ≤ b ∧ b ≠ g) :
    OR E W base t sz (.slice (some ⟨g, 0, none⟩) (k + 1) cap) (ys.take (k + 1)) (css ++ [c]) := by
  have hl : (ys.take k).length = k := by rw [List.length_take]; omega
  rw [List.take_succ_eq_append_getElem hk]
  have hcl : css.length = k := by rw [h.len, hl]
  refine ⟨by rw [List.length_append, h.len, List.length_append]; rfl, by rw [List.length_append, hl, List.flatten_append]; simpa using hown, fun i y hy => ?_⟩
  by_cases hi : i < k
  · rw [List.getElem?_append_left (by rw [hl]; exact hi)] at hy
    obtain ⟨c1, S1, h1, h2, h3, h4⟩ := h.el i y hy
    refine ⟨c1, fun b => S1 b ∧ b < w.heap.size, by rw [List.getElem?_append_left (by omega)]; exact h1, h2, L.same (L.cut h3) fun b hb hlt => hW b (h4 b hb.1).1 hlt (h4 b hb.1).2, fun b hb => ⟨(h4 b hb.1).1, fun e => ?_⟩⟩
    simp only [Value.ownBlock, Option.some.injEq] at e
    subst e
    rcases hat with hat | hat
    · exact (h4 b hb.1).2 hat.symm
    · have := hb.2; omega
  · have hil : i = k := by
      have := (List.getElem?_eq_some_iff.1 hy).1
      simp at this; omega
    subst hil
    rw [List.getElem?_append_right (by omega), hl] at hy
    simp at hy
    subst hy
    exact ⟨c, S, by rw [List.getElem?_append_right (by omega), hcl]; simp, hc, hE, fun b hb => ⟨(hS b hb).1, fun e => (hS b hb).2 (by simpa [Value.ownBlock] using e)⟩⟩
def flN (n : Int) : List Value := [.float .f64 (fw n)]
theorem Tryz.infoFl : (Tryz.prog.info? 27).map (fun i => (i.zero, i.size, i.bytes)) = some (some (.float .f64 0), 1, 8) := by kernel_rfl
theorem Tryz.infoFls : (Tryz.prog.info? 74).map (fun i => (i.zero, i.size, i.bytes)) = some (some (.slice none 0 0), 1, 24) := by kernel_rfl
/-- How far a row of numbers has been filled. -/
def FR (r : List Int) (gh : Nat) (w5 : World) (q : Nat) (W : World) : Prop :=
  (∀ b, b < w5.heap.size → b ≠ gh → W.heap[b]? = w5.heap[b]?) ∧ w5.heap.size ≤ W.heap.size ∧
  ∃ c : Array Value, W.heap[gh]? = some (.cells c 27 (0, 0)) ∧ c.size = r.length ∧ ∀ (i : Nat) (x : Int), i < q → r[i]? = some x → c[i]? = some (.float .f64 (fw x))
theorem FR.next {r : List Int} {gh : Nat} {w5 : World} {q : Nat} {W : World} {c : Array Value} {x : Int} (h1 : ∀ b, b < w5.heap.size → b ≠ gh → W.heap[b]? = w5.heap[b]?) (h2 : w5.heap.size ≤ W.heap.size)
    (h4 : W.heap[gh]? = some (.cells (c.setIfInBounds q (.float .f64 (fw x))) 27 (0, 0))) (hc : c.size = r.length) (hx : r[q]? = some x) (hfill : ∀ (i : Nat) (x : Int), i < q → r[i]? = some x → c[i]? = some (.float .f64 (fw x))) : FR r gh w5 (q + 1) W := by
  have hq := (List.getElem?_eq_some_iff.1 hx).1
  refine ⟨h1, h2, _, h4, by simpa using hc, fun i x' hi hx' => ?_⟩
  by_cases hiq : i < q
  · rw [set_ne (by omega)]
    exact hfill i x' hiq hx'
  · have hi2 : i = q := by omega
    subst hi2
    have e : x = x' := Option.some.inj (hx.symm.trans hx')
    subst e
    exact set_eq (by omega)
theorem FR.row {r : List Int} {gh : Nat} {w5 : World} {W : World} {S : Nat → Prop} (h : FR r gh w5 r.length W) (hS : S gh) : RowOf (ENum flN) 1 W S gh 0 r := by
  obtain ⟨_, _, c, hc, _, hf⟩ := h
  refine ⟨c, _, _, hc, hS, fun i x hx => ⟨_, rfl, fun j u hu => ?_⟩⟩
  have hj : j = 0 := by have := (List.getElem?_eq_some_iff.1 hu).1; simpa [flN] using this
  subst hj
  simp [flN] at hu
  subst hu
  simpa using hf i x (List.getElem?_eq_some_iff.1 hx).1 hx
set_option maxRecDepth 100000 in
set_option maxHeartbeats 4000000 in
theorem numMatrix_any (R cap p' q' : Nat) (m : List (List Int)) (w : World) (S : Nat → Prop) (hv : RowOf (ESl (ENum fN) 10) 1 w S R 0 m) (hm : Fit m) :
    Calls Tryz.prog 34 #[.agg #[.string mt, .float .f64 0, .string mt, .slice none 0 0, .slice (some ⟨R, 0, none⟩) m.length cap, .bool false, .string mt, .int .u8 4, .pointer (some ⟨p', 0, none⟩), .pointer (some ⟨q', 0, none⟩)], .bool false] w fun e w' => ∃ g cap',
      e = .returned (.tuple #[.slice (some ⟨g, 0, none⟩) m.length cap', .agg #[.string mt, .float .f64 0, .string mt, .slice none 0 0, .slice none 0 0, .bool false, .string mt, .int .u8 0, .pointer none, .pointer none]]) ∧
      RowOf (ESl (ENum flN) 1) 1 w' (fun b => w.heap.size ≤ b) g 0 m ∧ Fr w w' := by
  have Hv := Lib.hid hv; clear hv
  obtain ⟨h0, h30, hr⟩ := hm
  have HR := Lib.hid hr; clear hr
  have LF := lie_sl (lie_num fN) 10
  have L := lie_sl (lie_num flN) 1
  obtain ⟨i0, hi, hz0, hz1, hz2⟩ := info_parts Tryz.infoFl
  obtain ⟨i1, hj, hy0, hy1, hy2⟩ := info_parts Tryz.infoFls
  obtain ⟨n, hn⟩ : ∃ n, n = m.length := ⟨_, rfl⟩
  have Hn := Lib.hid hn
  rw [← hn] at h0 h30 ⊢
  clear hn
  have hRlt := Hv.out.lt
  go_enter Tryz.func34, Tryz.ntmps34
  go_wp2
  obtain ⟨wA, hA⟩ : ∃ wA, wA = ((w.alloc (.cells #[.string mt, .float .f64 0, .string mt, .slice none 0 0, .slice (some ⟨R, 0, none⟩) n cap, .bool false, .string mt, .int .u8 4, .pointer (some ⟨p', 0, none⟩), .pointer (some ⟨q', 0, none⟩)] 54)).alloc (.cells zFa 54)) := ⟨_, rfl⟩
  have hfA : Fr w wA := by rw [hA]; exact ((Fr.refl w).alloc _).alloc _
  have hsA : wA.heap.size = w.heap.size + 2 := by rw [hA]; simp
  have hres : wA.heap[w.heap.size + 1]? = some (.cells zFa 54 (0, 0)) := by rw [hA]; exact at_new (by simp)
  have HA := Lib.hid hA; clear hA
  go_loopw [4, 17] (fun v i wr => ∃ k : Nat, k ≤ n ∧ i = .int .i64 k ∧ (∃ css, OR (ESl (ENum flN) 1) wr (w.heap.size + 2) 74 1 v (m.take k) css) ∧ Fr wA wr) (fun _ i _ => n - (intOf i).toNat)
  case atStart => exact ⟨0, Nat.zero_le _, rfl, ⟨_, by simpa using OR.nil _ _ _ _ _⟩, by rw [HA.out]; exact Fr.refl _⟩
  case round =>
    obtain ⟨k, hk, rfl, ⟨css, hor⟩, hf⟩ := hrel
    have Hor := Lib.hid hor; clear hor
    have hsz := hf.size
    by_cases hlt : k < n
    · have hkl : k < m.length := by rw [← Hn.out]; exact hlt
      obtain ⟨cs, ⟨g1, cap1, rfl, hrow⟩, hcs⟩ := Hv.out.at hkl
      have c0 := ((hfA.step hf).cells.1 _ _ hRlt).trans (hcs 0 _ rfl)
      have lg1w := hrow.lt
      simp only [Nat.zero_add, Nat.add_zero, Nat.mul_one] at c0
      clear hcs
      obtain ⟨r0, r30, hrx⟩ := HR.out _ (List.getElem_mem hkl)
      clear hrx
      have HRow := Lib.hid hrow; clear hrow
      generalize hmk : m[k] = r at *
      have Hmk := Lib.hid hmk; clear hmk
      obtain ⟨p, hp⟩ : ∃ p, p = r.length := ⟨_, rfl⟩
      rw [← hp] at r0 r30 c0
      have Hp := Lib.hid hp; clear hp
      have lR : R < wr.heap.size := by omega
      have lg1 : g1 < wr.heap.size := by omega
      obtain ⟨w0, e0⟩ : ∃ w0, w0 = wr := ⟨_, rfl⟩
      subst e0
      go_wp2_with (at_make; refine wpList_make_full _ rfl _ _ 74 rfl w0.heap.size 27 i0 (.float .f64 0) 1 Tryz.underlying74 hi hz0 hz1 _ _ _ _ p rfl rfl rfl rfl (by rw [hz2]; omega) (by simp only [maxLen]; omega) (Nat.le_refl _) ?_)
      intro w1 hown1 hgrow1
      obtain ⟨c1, hb1, hc1, _⟩ := own_full hown1
      rw [Nat.mul_one] at hc1
      have hf1 : Fr w0 w1 := (Fr.refl w0).grown hgrow1 (fun q h => by cases h)
      have hsz1 := hf1.size
      have lgh : w0.heap.size < w1.heap.size := block_lt hb1
      have Hor1 := Lib.hid (Hor.out.fr L hf1)
      clear hown1 hgrow1
      go_wp2_with (at_builtin; refine wpList_append_lies _ rfl _ _ 71 rfl (w.heap.size + 2) 74 i1 (.slice none 0 0) 1 24 Tryz.underlying71 hj hy0 hy1 hy2 rfl (by decide) _ _ _ rfl ((Hor1.out.alloc L _).take (Nat.le_of_lt hkl)) ⟨w1.heap.size, 0, none⟩ 1 1 [.slice (some ⟨w0.heap.size, 0, none⟩) p p] rfl rfl (news_new rfl rfl) (oneCells rfl) (by decide) (by simp only [maxLen]; omega) (by omega) (by simp; omega) _ rfl ?_)
      intro g5 cap5 w5 hown5 hgrow5 hat5 hlt5
      have hsz5 := hgrow5.size
      simp at hsz5
      have hro := Hor.out.lt
      have hgh5 := (hgrow5.block w0.heap.size (by simp; omega) (fun e => by have := (hro _ e.symm).2; omega)).trans (at_old hb1)
      have hg5 : g5 ≠ w0.heap.size := by
        rcases hat5 with h | h
        · have := (hro _ h).2; omega
        · (try simp at h); omega
      have HT5 := Lib.hid (show FR r w0.heap.size w5 0 w5 from ⟨fun _ _ _ => rfl, Nat.le_refl _, c1, hgh5, by rw [hc1, Hp.out], fun i x hi => by omega⟩)
      have HO5 := Lib.hid hown5
      have HG5 := Lib.hid hgrow5
      have Hat5 := Lib.hid hat5
      have Hb1 := Lib.hid hb1
      have hf5 : Fr wA w5 := ((hf.step hf1).alloc _).grown hgrow5 (fun q h => by have := (hro _ h).1; omega)
      have hw5 : Fr w w5 := hfA.step hf5
      have hf05 : ∀ b, b < w0.heap.size → some b ≠ Value.ownBlock _ → w5.heap[b]? = w0.heap[b]? := fun b hb hne => (hgrow5.block b (by simp; omega) hne).trans ((heap_alloc_old _ _ (by omega)).trans (hf1.block b hb))
      have Hf05 := Lib.hid hf05
      clear hgh5 hown5 hgrow5 hat5 hb1 hc1 hf05
      go_wp2
      go_loopw [38] (fun i wi => ∃ q : Nat, q ≤ p ∧ i = .int .i64 q ∧ FR r w0.heap.size w5 q wi ∧ Fr wA wi) (fun i _ => p - (intOf i).toNat)
      case atStart => exact ⟨0, Nat.zero_le _, rfl, HT5.out, hf5⟩
      case round =>
        obtain ⟨q, hq, rfl, hT, hfi⟩ := hrel
        have HT := Lib.hid hT; clear hT
        by_cases hqp : q < p
        · have hqr : q < r.length := by rw [← Hp.out]; exact hqp
          obtain ⟨hin, hszi, c, hgc, hcs, hfill⟩ := HT.out
          rw [← Hp.out] at hcs
          obtain ⟨cs2, hE2, hcs2⟩ := HRow.out.at hqr
          have hE' : cs2 = fN r[q] := hE2
          subst hE'
          have Hxq := Lib.hid (show r[q]? = some r[q] from List.getElem?_eq_getElem hqr)
          generalize r[q] = x at *
          have d0 := ((hfA.step hfi).cells.1 _ _ lg1w).trans (hcs2 0 _ rfl)
          have d1 := ((hfA.step hfi).cells.1 _ _ lg1w).trans (hcs2 1 _ rfl)
          have d2 := ((hfA.step hfi).cells.1 _ _ lg1w).trans (hcs2 2 _ rfl)
          have d3 := ((hfA.step hfi).cells.1 _ _ lg1w).trans (hcs2 3 _ rfl)
          have d4 := ((hfA.step hfi).cells.1 _ _ lg1w).trans (hcs2 4 _ rfl)
          have d5 := ((hfA.step hfi).cells.1 _ _ lg1w).trans (hcs2 5 _ rfl)
          have d6 := ((hfA.step hfi).cells.1 _ _ lg1w).trans (hcs2 6 _ rfl)
          have d7 := ((hfA.step hfi).cells.1 _ _ lg1w).trans (hcs2 7 _ rfl)
          have d8 := ((hfA.step hfi).cells.1 _ _ lg1w).trans (hcs2 8 _ rfl)
          have d9 := ((hfA.step hfi).cells.1 _ _ lg1w).trans (hcs2 9 _ rfl)
          simp only [Nat.zero_add, Nat.add_zero] at d0 d1 d2 d3 d4 d5 d6 d7 d8 d9
          clear hcs2 hE2
          have hgk : k < k + 1 := Nat.lt_succ_self k
          have hne5 : g5 ≠ w0.heap.size := hg5
          have hfl : css.flatten.length = k := by have := (Hor.out.take (Nat.le_of_lt hkl)).1; omega
          have n5 : wr.cell? ⟨g5, k, none⟩ = some (.slice (some ⟨w0.heap.size, 0, none⟩) p p) := by
            rw [World.cell?_of_block (a := ⟨g5, k, none⟩) (hin g5 hlt5 hg5), HO5.out.cellAt k (by omega), List.getElem?_append_right (by omega), hfl, Nat.sub_self]; rfl
          clear hfl
          obtain ⟨cG, zG⟩ := obj_rules2 hgc
          have lgw : w0.heap.size < wr.heap.size := block_lt hgc
          have lg5 : g5 < wr.heap.size := by omega
          have lgw1 : g1 < wr.heap.size := by omega
          have hk0 : (0 : Int) ≤ (k : Int) := Int.natCast_nonneg _
          have hk1 : (k : Int) < (k : Int) + 1 := by omega
          have hq0 : (0 : Int) ≤ (q : Int) := Int.natCast_nonneg _
          have hq1 : (q : Int) < (p : Int) := by omega
          obtain ⟨y, hy⟩ : ∃ y, wr.cell? ⟨w0.heap.size, q, none⟩ = some y := ⟨_, (cG q).trans (Array.getElem?_eq_getElem (by omega))⟩
          have Hgc := Lib.hid hgc
          have Hin := Lib.hid hin
          have Hcs := Lib.hid hcs
          have Hfill := Lib.hid hfill
          clear hgc hin hcs hfill cG
          go_wp2
          go_region
          clear d0 d1 d2 d3 d4 d5 d6 d7 d8 d9 n5 hy zG c0
          go_wp2
          go_roundw
          case rel =>
            refine ⟨q + 1, by omega, by simp, FR.next (c := c) (x := x) ?_ ?_ ?_ (by rw [← Hp.out]; exact Hcs.out) Hxq.out Hfill.out, ?_⟩
            · intro b hb hne
              refine drew_eq ?_
              refine (heap_alloc_old _ _ (by simp; omega)).trans ?_
              refine far_eq ?_ _ _ hne
              exact Hin.out b hb hne
            · simp; omega
            · exact drew_eq (at_old (heap_setCell_same _ _ q _ _ _ Hgc.out))
            · refine Fr.drew ?_
              refine Fr.alloc ?_ _
              exact Fr.set (by show wA.heap.size ≤ w0.heap.size; omega) hfi _
          case measure => simp [intOf]; omega
        · have hqe : q = p := by omega
          subst hqe
          obtain ⟨hin, hszi, _⟩ := HT.out
          have hrow5 := (by rw [← Hp.out]; exact HT.out : FR r w0.heap.size w5 r.length wr).row (S := fun b => b = w0.heap.size) rfl
          have hown : wr.ownsRow (w.heap.size + 2) 74 1 (.slice (some ⟨g5, 0, none⟩) (k + 1) cap5) (k + 1) (css.flatten ++ [.slice (some ⟨w0.heap.size, 0, none⟩) q q]) := by
            refine ⟨HO5.out.1, ?_⟩
            rcases HO5.out.2 with ⟨h, _⟩ | ⟨g', cap', cur, e, hb, hg, rest⟩
            · cases h
            · simp only [Value.slice.injEq, Option.some.injEq, Addr.mk.injEq, and_true, true_and] at e
              obtain ⟨rfl, rfl⟩ := e
              exact .inr ⟨g5, cap5, cur, rfl, hb, (hin g5 (block_lt hg) hg5).trans hg, rest⟩
          have hor5 := Hor.out.later L (W := wr) (S := fun b => b = w0.heap.size) (c := [.slice (some ⟨w0.heap.size, 0, none⟩) q q]) hkl (fun b _ hb hne => (hin b (by omega) (by omega)).trans (Hf05.out b hb hne)) hown
            (by rcases Hat5.out with h | h; exact .inl h; exact .inr (by (try simp at h); omega)) (by rw [Hmk.out]; exact ⟨w0.heap.size, q, by rw [← Hp.out], hrow5⟩) rfl (fun b (h : b = w0.heap.size) => ⟨by omega, by omega⟩)
          have Hor5 := Lib.hid hor5
          clear hor5 hown hrow5 hin c0
          go_wp2
          go_roundw
          case rel => exact ⟨k + 1, by omega, by simp, ⟨_, Hor5.out⟩, hfi⟩
          case measure => simp [intOf]; omega
    · have hkn : n = k := by omega
      subst hkn
      have hls : m.take n = m := by rw [Hn.out, List.take_length]
      have hor := Hor.out
      rw [hls] at hor
      obtain ⟨g2, c2, hv2, hrow⟩ := hor.done L (by rw [← Hn.out]; exact h0)
      rw [← Hn.out] at hv2
      subst hv2
      have hres2 := (hf.block _ (by omega)).trans hres
      obtain ⟨cR, zR⟩ := obj_rules2 hres2
      unfold zFa at cR
      have Hrow := Lib.hid hrow
      clear hrow hor hls Hor hres hres2
      go_wp2
      exact bodyPost_ret (v := .tuple #[.slice (some ⟨g2, 0, none⟩) n c2, .agg #[.string mt, .float .f64 0, .string mt, .slice none 0 0, .slice none 0 0, .bool false, .string mt, .int .u8 0, .pointer none, .pointer none]]) (by simp [results, Tryz.results34, go_sem, sv, mt, *]) rfl ⟨g2, c2, rfl, Hrow.out.mono L (fun b (h : w.heap.size + 2 ≤ b) => by omega), hfA.step hf⟩
end Go.Proofs.YtlhonpmpchkkfaaGreatDoor
/- The only number of a product, as a matrix of arguments. -/
namespace Go.Proofs.YtlhonpmpchkkfaaGreatDoor
open Go.RowKit
open Fl
open Ieee (double)
theorem FI_word {z : Nat} {s : Int} (h : FI z s) (hs : s ≠ 0) : z = fw s := by
  obtain ⟨_, neg, rfl, hn⟩ := h
  unfold fw
  rw [hn hs]
theorem FI_zero : FI 0 0 := ⟨by decide, false, by decide, fun h => absurd rfl h⟩
set_option maxRecDepth 100000 in
set_option maxHeartbeats 1000000 in
theorem newNumber_fi (z : Nat) (s : Int) (w : World) (h : FI z s) :
    Calls Tryz.prog 33 #[.float .f64 z] w fun e w' => e = .returned (fa 1 (fw s) mt mt) ∧ Fr w w' := by
  by_cases hs : s = 0
  · subst hs
    have h1 : FloatKind.f64.format.order z z = some .eq := not_nan h
    have h2 : FloatKind.f64.format.order z 0 = some .eq := FI.order h FI_zero
    have h3 : fw 0 = 0 := by decide
    rw [h3]
    clear h
    go_enter Tryz.func33, Tryz.ntmps33
    go_wp2
    exact bodyPost_ret (v := .agg #[.string mt, .float .f64 0, .string mt, .slice none 0 0, .slice none 0 0, .bool false, .string mt, .int .u8 1, .pointer none, .pointer none]) (by simp [results, Tryz.results33, go_sem, sv, mt, *]) rfl ⟨rfl, (by repeat (first | (with_reducible exact Fr.refl _) | ((with_reducible refine Fr.set ?_ ?_ _); focus (simp; done)) | (with_reducible refine Fr.alloc ?_ _) | (with_reducible refine Fr.drew ?_) | (with_reducible refine Fr.step ?_ (by assumption))))⟩
  · rw [FI_word h hs]
    exact newNumber_int s w h.1
set_option maxRecDepth 100000 in
set_option maxHeartbeats 4000000 in
theorem argMatrix_one (g h cap cap' z : Nat) (s : Int) (w : World) (hz : FI z s) (c0 : w.cell? ⟨g, 0, none⟩ = some (.slice (some ⟨h, 0, none⟩) 1 cap')) (c1 : w.cell? ⟨h, 0, none⟩ = some (.float .f64 z)) :
    Calls Tryz.prog 36 #[.slice (some ⟨g, 0, none⟩) 1 cap] w fun e w' => ∃ g2 c2, e = .returned (.slice (some ⟨g2, 0, none⟩) 1 c2) ∧ RowOf (ESl (ENum fN) 10) 1 w' (fun b => w.heap.size ≤ b) g2 0 [[s]] ∧ Fr w w' := by
  have lg := World.block_lt_of_cell? w _ c0
  have lh := World.block_lt_of_cell? w _ c1
  simp only at lg lh
  have Hz := Lib.hid hz; clear hz
  obtain ⟨i0, hi, hz0, hz1, hz2⟩ := info_parts Tryz.infoFa
  obtain ⟨i1, hj, hy0, hy1, hy2⟩ := info_parts Tryz.infoFas
  have LF := lie_sl (lie_num fN) 10
  go_enter Tryz.func36, Tryz.ntmps36
  go_wp2
  go_loopw [2, 9] (fun v i wr => ((i = .int .i64 0 ∧ v = .slice none 0 0 ∧ wr = w) ∨ (i = .int .i64 1 ∧ ∃ g2 c2, v = .slice (some ⟨g2, 0, none⟩) 1 c2 ∧ RowOf (ESl (ENum fN) 10) 1 wr (fun b => w.heap.size ≤ b) g2 0 [[s]])) ∧ Fr w wr) (fun _ i _ => 1 - (intOf i).toNat)
  case atStart => exact ⟨.inl ⟨rfl, rfl, rfl⟩, Fr.refl _⟩
  case round =>
    obtain ⟨⟨rfl, rfl, rfl⟩ | ⟨rfl, g2, c2, rfl, hrow⟩, hf⟩ := hrel
    · obtain ⟨w0, e0⟩ : ∃ w0, w0 = wr := ⟨_, rfl⟩
      subst e0
      go_wp2_with (at_make; refine wpList_make_full _ rfl _ _ 49 rfl w0.heap.size 54 i0 (fa 0 0 mt mt) 10 Tryz.underlying49 hi hz0 hz1 _ _ _ _ 1 rfl rfl rfl rfl (by rw [hz2]; omega) (by simp [maxLen]) (Nat.le_refl _) ?_)
      intro w1 hown1 hgrow1
      obtain ⟨c, hb1, hc1, _⟩ := own_full hown1
      have hf1 : Fr w0 w1 := (Fr.refl w0).grown hgrow1 (fun q h => by cases h)
      have hsz1 := hf1.size
      have lgh : w0.heap.size < w1.heap.size := block_lt hb1
      clear hown1 hgrow1
      go_wp2_with (at_builtin; refine wpList_append_lies _ rfl _ _ 50 rfl w0.heap.size 49 i1 (.slice none 0 0) 1 24 Tryz.underlying50 hj hy0 hy1 hy2 rfl (by decide) _ _ _ rfl (World.ownsRow_nil _ _ _ _) ⟨w1.heap.size, 0, none⟩ 1 1 [.slice (some ⟨w0.heap.size, 0, none⟩) 1 1] rfl rfl (news_new rfl rfl) (oneCells rfl) (by decide) (by simp [maxLen]) (by omega) (by simp; omega) _ rfl ?_)
      intro g5 cap5 w5 hown5 hgrow5 hat5 hlt5
      have hsz5 := hgrow5.size
      simp at hsz5
      have hgh5 := (hgrow5.block w0.heap.size (by simp; omega) (fun e => by cases e)).trans (at_old hb1)
      have hg5 : g5 ≠ w0.heap.size := by
        rcases hat5 with h | h
        · cases h
        · (try simp at h); omega
      have hg5' : w0.heap.size ≤ g5 := by
        rcases hat5 with h | h
        · cases h
        · (try simp at h); omega
      have n5 : w5.cell? ⟨g5, 0, none⟩ = some (.slice (some ⟨w0.heap.size, 0, none⟩) 1 1) := hown5.cellAt 0 (by omega)
      have hf5 : Fr w0 w5 := (hf1.alloc _).grown hgrow5 (fun q h => by cases h)
      have hb5 : ∃ cur t, w5.heap[g5]? = some (.cells cur t (0, 0)) ∧ cur[0]? = some (.slice (some ⟨w0.heap.size, 0, none⟩) 1 1) := by
        rcases hown5.2 with ⟨h, _⟩ | ⟨g', cap', cur, e, _, hg, _⟩
        · cases h
        · simp only [Value.slice.injEq, Option.some.injEq, Addr.mk.injEq, and_true, true_and] at e
          obtain ⟨rfl, rfl⟩ := e
          exact ⟨cur, _, hg, by rw [← n5, Lib.cell_of_heap hg]⟩
      obtain ⟨cur, tcur, hbg, hcur⟩ := hb5
      have Hbg := Lib.hid hbg; clear hbg
      have Hcur := Lib.hid hcur; clear hcur
      obtain ⟨cH, zH⟩ := obj_rules2 hgh5
      have ex : ∀ j, j < 10 → ∃ z, w5.cell? ⟨w0.heap.size, j, none⟩ = some z := fun j hj => ⟨_, (cH _).trans (Array.getElem?_eq_getElem (by omega))⟩
      obtain ⟨y0, f0⟩ := ex 0 (by decide)
      obtain ⟨y1, f1⟩ := ex 1 (by decide)
      obtain ⟨y2, f2⟩ := ex 2 (by decide)
      obtain ⟨y3, f3⟩ := ex 3 (by decide)
      obtain ⟨y4, f4⟩ := ex 4 (by decide)
      obtain ⟨y5, f5⟩ := ex 5 (by decide)
      obtain ⟨y6, f6⟩ := ex 6 (by decide)
      obtain ⟨y7, f7⟩ := ex 7 (by decide)
      obtain ⟨y8, f8⟩ := ex 8 (by decide)
      obtain ⟨y9, f9⟩ := ex 9 (by decide)
      have Hgh5 := Lib.hid hgh5
      have Hc1 := Lib.hid hc1
      have c05 := (hf5.cells.1 _ _ lg).trans c0
      have c15 := (hf5.cells.1 _ _ lh).trans c1
      have lgw5 : w0.heap.size < w5.heap.size := by omega
      have lh5 : h < w5.heap.size := by omega
      clear hgh5 hc1 hb1 hown5 hgrow5 hat5 cH ex c0 c1
      go_wp2
      go_loopw [22] (fun i wi => ((i = .int .i64 0 ∧ wi = w5) ∨ (i = .int .i64 1 ∧ RowOf (ESl (ENum fN) 10) 1 wi (fun b => w0.heap.size ≤ b) g5 0 [[s]])) ∧ Fr w0 wi) (fun i _ => 1 - (intOf i).toNat)
      case atStart => exact ⟨.inl ⟨rfl, rfl⟩, hf5⟩
      case round =>
        obtain ⟨⟨rfl, rfl⟩ | ⟨rfl, hrow⟩, hfi⟩ := hrel
        · have hci := hfi
          go_wp2
          go_region_law
            (first
              | (go_simp
                 refine (newNumber_fi z s _ Hz.out).mono ?_
                 rintro e wb ⟨rfl, hfb⟩
                 unfold fa
                 have hcb := hfb.cells.1
                 have hzb := hfb.cells.2
                 have hsb := hfb.size
                 (try simp at hcb)
                 (try simp at hzb)
                 (try simp at hsb)))
          all_goals
            clear f0 f1 f2 f3 f4 f5 f6 f7 f8 f9 n5 zH c05 c15 hcb hzb
            have hq5 : g5 ≠ w0.heap.size := hg5
            go_wp2
            go_roundw
            case rel =>
              refine ⟨.inr ⟨rfl, cur, tcur, (0, 0), ?_, hg5', fun i r hr => ?_⟩, ?_⟩
              · (iterate 10 refine far_set ?_ _ _ hq5)
                exact (hfb.block g5 hlt5).trans Hbg.out
              · have hi0 : i = 0 := by have := (List.getElem?_eq_some_iff.1 hr).1; simpa using this
                subst hi0
                simp at hr
                subst hr
                refine ⟨[.slice (some ⟨w0.heap.size, 0, none⟩) 1 1], ⟨w0.heap.size, 1, rfl, put10 c 0 (.string mt) (.float .f64 (fw s)) (.string mt) (.slice none 0 0) (.slice none 0 0) (.bool false) (.string mt) (.int .u8 1) (.pointer none) (.pointer none), 54, (0, 0), ?_, Nat.le_refl _, fun i x hx => ⟨_, rfl, fun j u hu => ?_⟩⟩, fun j u hu => ?_⟩
                · exact (heap_setCell_same _ w0.heap.size 9 _ _ _ (heap_setCell_same _ w0.heap.size 8 _ _ _ (heap_setCell_same _ w0.heap.size 7 _ _ _ (heap_setCell_same _ w0.heap.size 6 _ _ _ (heap_setCell_same _ w0.heap.size 5 _ _ _ (heap_setCell_same _ w0.heap.size 4 _ _ _ (heap_setCell_same _ w0.heap.size 3 _ _ _ (heap_setCell_same _ w0.heap.size 2 _ _ _ (heap_setCell_same _ w0.heap.size 1 _ _ _ (heap_setCell_same _ w0.heap.size 0 _ _ _ ((hfb.block w0.heap.size lgw5).trans Hgh5.out)))))))))))
                · have hi1 : i = 0 := by have := (List.getElem?_eq_some_iff.1 hx).1; simpa using this
                  subst hi1
                  simp at hx
                  subst hx
                  have := put10_at (c := c) (o := 0) (a0 := .string mt) (a1 := .float .f64 (fw s)) (a2 := .string mt) (a3 := .slice none 0 0) (a4 := .slice none 0 0) (a5 := .bool false) (a6 := .string mt) (a7 := .int .u8 1) (a8 := .pointer none) (a9 := .pointer none) (by rw [Hc1.out]; omega) j u hu
                  simpa using this
                · have hj0 : j = 0 := by have := (List.getElem?_eq_some_iff.1 hu).1; simpa using this
                  subst hj0
                  simp at hu
                  subst hu
                  exact Hcur.out
              · (iterate 10 refine Fr.set (Nat.le_refl _) ?_ _)
                exact hfi.step (Fr.step (Fr.refl _).drew hfb)
            case measure => simp [intOf]
        · have Hrow := Lib.hid hrow; clear hrow
          go_wp2
          go_roundw
          case rel => exact ⟨.inr ⟨rfl, g5, cap5, rfl, Hrow.out⟩, hfi⟩
          case measure => simp [intOf]
    · have Hrow := Lib.hid hrow; clear hrow
      go_wp2
      go_ret
      exact ⟨g2, c2, rfl, Hrow.out, hf⟩
end Go.Proofs.YtlhonpmpchkkfaaGreatDoor
