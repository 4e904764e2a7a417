import Derived.Test.YtlhonpmpchkkfaaGreatDoorGK
import Derived.Deep.RegionLaw
set_option linter.unusedSimpArgs false
set_option linter.unusedVariables false
/- A matrix of the package's values as an argument of its functions. -/
namespace Go.Proofs.YtlhonpmpchkkfaaGreatDoor
open Go.RowKit
open Fl
open Ieee (double)
theorem Tryz.infoFa : (Tryz.prog.info? 54).map (fun i => (i.zero, i.size, i.bytes)) = some (some (fa 0 0 mt mt), 10, 136) := by kernel_rfl
theorem Tryz.infoFas : (Tryz.prog.info? 49).map (fun i => (i.zero, i.size, i.bytes)) = some (some (.slice none 0 0), 1, 24) := by kernel_rfl
def zFa : Array Value := #[.string mt, .float .f64 0, .string mt, .slice none 0 0, .slice none 0 0, .bool false, .string mt, .int .u8 0, .pointer none, .pointer none]
set_option maxRecDepth 100000 in
set_option maxHeartbeats 4000000 in
theorem innerArg_mat (R cap : Nat) (m : List (List Int)) (w : World) (S : Nat → Prop) (hv : RowOf (ESl (ENum iN) 4) 1 w S R 0 m) (hm : Fit m) :
    Calls Tryz.prog 39 #[.agg #[.int .i64 5, .float .f64 0, .string mt, .slice (some ⟨R, 0, none⟩) m.length cap]] w fun e w' => ∃ R' cap' p q,
      e = .returned (.agg #[.string mt, .float .f64 0, .string mt, .slice none 0 0, .slice (some ⟨R', 0, none⟩) m.length cap', .bool false, .string mt, .int .u8 4, .pointer (some ⟨p, 0, none⟩), .pointer (some ⟨q, 0, none⟩)]) ∧
      EF w' (fun b => w.heap.size ≤ b) m (fmC R' m.length cap' p q) ∧ Fr w w' := by
  have Hv := Lib.hid hv; clear hv
  obtain ⟨h0, h30, hr⟩ := hm
  have HR := Lib.hid hr; clear hr
  have LI := lie_sl (lie_num iN) 4
  have LF := lie_sl (lie_num fN) 10
  obtain ⟨i0, hi, hz0, hz1, hz2⟩ := info_parts Tryz.infoFa
  obtain ⟨i1, hj, hy0, hy1, hy2⟩ := info_parts Tryz.infoFas
  obtain ⟨n, hn⟩ : ∃ n, n = m.length := ⟨_, rfl⟩
  have Hn := Lib.hid hn
  rw [← hn] at h0 h30 ⊢
  clear hn
  have hRlt := Hv.out.lt
  go_enter Tryz.func39, Tryz.ntmps39
  go_wp2
  obtain ⟨wA, hA⟩ : ∃ wA, wA = ((w.alloc (.cells #[.int .i64 5, .float .f64 0, .string mt, .slice (some ⟨R, 0, none⟩) n cap] 42)).alloc (.cells zFa 54)) := ⟨_, rfl⟩
  have hfA : Fr w wA := by rw [hA]; exact ((Fr.refl w).alloc _).alloc _
  have hsA : wA.heap.size = w.heap.size + 2 := by rw [hA]; simp
  have hres : wA.heap[w.heap.size + 1]? = some (.cells zFa 54 (0, 0)) := by rw [hA]; exact at_new (by simp)
  have HA := Lib.hid hA; clear hA
  go_loopw [3, 40] (fun v i wr => ∃ k : Nat, k ≤ n ∧ i = .int .i64 k ∧ (∃ css, OR (ESl (ENum fN) 10) wr (w.heap.size + 2) 49 1 v (m.take k) css) ∧ Fr wA wr) (fun _ i _ => n - (intOf i).toNat)
  case atStart => exact ⟨0, Nat.zero_le _, rfl, ⟨_, by simpa using OR.nil _ _ _ _ _⟩, by rw [HA.out]; exact Fr.refl _⟩
  case round =>
    obtain ⟨k, hk, rfl, ⟨css, hor⟩, hf⟩ := hrel
    have Hor := Lib.hid hor; clear hor
    have hsz := hf.size
    by_cases hlt : k < n
    · have hkl : k < m.length := by rw [← Hn.out]; exact hlt
      obtain ⟨cs, ⟨g1, cap1, rfl, hrow⟩, hcs⟩ := (Hv.out.fr LI (hfA.step hf)).at hkl
      have c0 := hcs 0 _ rfl
      simp only [Nat.zero_add, Nat.add_zero, Nat.mul_one] at c0
      clear hcs
      obtain ⟨r0, r30, hrx⟩ := HR.out _ (List.getElem_mem hkl)
      have HRx := Lib.hid hrx; clear hrx
      have HRow := Lib.hid hrow; clear hrow
      generalize hmk : m[k] = r at *
      have Hmk := Lib.hid hmk; clear hmk
      obtain ⟨p, hp⟩ : ∃ p, p = r.length := ⟨_, rfl⟩
      rw [← hp] at r0 r30 c0
      have Hp := Lib.hid hp; clear hp
      have lR : R < wr.heap.size := by omega
      obtain ⟨w0, e0⟩ : ∃ w0, w0 = wr := ⟨_, rfl⟩
      subst e0
      go_wp2
      go_loopw [6, 46] (fun u i wi => ∃ q : Nat, q ≤ p ∧ i = .int .i64 q ∧ (∃ css, OR (ENum fN) wi w0.heap.size 54 10 u (r.take q) css) ∧ Fr w0 wi) (fun _ i _ => p - (intOf i).toNat)
      case atStart => exact ⟨0, Nat.zero_le _, rfl, ⟨_, by simpa using OR.nil _ _ _ _ _⟩, Fr.refl _⟩
      case round =>
        obtain ⟨q, hq, rfl, ⟨css1, hor1⟩, hfi⟩ := hrel
        have Hor1 := Lib.hid hor1; clear hor1
        have hszi := hfi.size
        by_cases hqp : q < p
        · have hqr : q < r.length := by rw [← Hp.out]; exact hqp
          obtain ⟨cs2, hE, hcs2⟩ := (HRow.out.fr (lie_num iN) hfi).at hqr
          have hE' : cs2 = iN r[q] := hE
          subst hE'
          have hg1 : g1 < wr.heap.size := (HRow.out.fr (lie_num iN) hfi).lt
          have d0 := hcs2 0 _ rfl
          have d1 := hcs2 1 _ rfl
          have d2 := hcs2 2 _ rfl
          have d3 := hcs2 3 _ rfl
          simp only [Nat.zero_add, Nat.add_zero] at d0 d1 d2 d3
          clear hcs2 hE
          have hx := HRx.out _ (List.getElem_mem hqr)
          generalize hrq : r[q] = x at *
          have Hrq := Lib.hid hrq; clear hrq
          have HX := Lib.hid hx; clear hx
          go_wp2_with fail
          have hcall := Lib.hid (fun W => innerArg_num x W HX.out)
          unfold iv at hcall
          refine (hcall.out _).mono ?_
          rintro e w1 ⟨rfl, hf1⟩
          have hf2 : Fr w0 w1 := (hfi.alloc _).step hf1
          have hsz1 := hf1.size
          simp at hsz1
          have Hor2 := Lib.hid ((Hor1.out.alloc (lie_num fN) (.cells #[.int .i64 1, .float .f64 (fw x), .string mt, .slice none 0 0] 42)).fr (lie_num fN) hf1)
          clear d0 d1 d2 d3 hcall
          unfold fa
          go_wp2_with (at_builtin; refine wpList_append_lies _ rfl _ _ 49 rfl w0.heap.size 54 i0 (fa 0 0 mt mt) 10 136 Tryz.underlying49 hi hz0 hz1 hz2 rfl (by decide) _ _ _ rfl ((Hor2.out.alloc (lie_num fN) _).take (Nat.le_of_lt hqr)) ⟨w1.heap.size, 0, none⟩ 1 1 (fN x) rfl rfl (news_new rfl rfl) (oneCells rfl) (by decide) (by simp only [maxLen]; omega) (by omega) (by simp; omega) _ rfl ?_)
          intro g5 cap5 w5 hown1 hgrow hat hlt5
          have hor5 := (Hor2.out.alloc (lie_num fN) (.cells #[.string mt, .float .f64 (fw x), .string mt, .slice none 0 0, .slice none 0 0, .bool false, .string mt, .int .u8 1, .pointer none, .pointer none] 54)).next (lie_num fN) (S := fun _ => False) (c := fN x) hqr (by rw [Hrq.out]; rfl) rfl (fun b h => h.elim) hown1 hgrow hat (by simp)
          have hf5 : Fr w0 w5 := (hf2.alloc _).grown hgrow (fun q h => (Hor1.out.lt _ h).1)
          have HOR5 := Lib.hid hor5
          clear hor5 hown1 hgrow hat
          go_wp2
          go_roundw
          case rel => exact ⟨q + 1, by omega, by simp, ⟨_, HOR5.out⟩, hf5⟩
          case measure => simp [intOf]; omega
        · have hqe : q = p := by omega
          subst hqe
          have hls : r.take q = r := by rw [Hp.out, List.take_length]
          have hor := Hor1.out
          rw [hls] at hor
          obtain ⟨g2, c2', hv2, hrow2⟩ := hor.done (lie_num fN) (by rw [← Hp.out]; exact r0)
          rw [← Hp.out] at hv2
          subst hv2
          have Hrow2 := Lib.hid hrow2
          clear hrow2 hor hls Hor1
          have Hor2 := Lib.hid (Hor.out.fr LF hfi)
          go_wp2_with (at_builtin; refine wpList_append_lies _ rfl _ _ 50 rfl (w.heap.size + 2) 49 i1 (.slice none 0 0) 1 24 Tryz.underlying50 hj hy0 hy1 hy2 rfl (by decide) _ _ _ rfl ((Hor2.out.alloc LF _).take (Nat.le_of_lt hkl)) ⟨wr.heap.size, 0, none⟩ 1 1 [.slice (some ⟨g2, 0, none⟩) q c2'] rfl rfl (news_new rfl rfl) (oneCells rfl) (by decide) (by simp only [maxLen]; omega) (by omega) (by simp; omega) _ rfl ?_)
          intro g5 cap5 w5 hown1 hgrow hat hlt5
          have hro := Hor.out.lt
          have hor5 := (Hor2.out.alloc LF (.cells #[.slice (some ⟨g2, 0, none⟩) q c2'] 49)).next LF (S := fun b => w0.heap.size ≤ b) (c := [.slice (some ⟨g2, 0, none⟩) q c2']) hkl
            (by rw [Hmk.out]; exact ⟨g2, c2', by rw [← Hp.out], Hrow2.out.fr (lie_num fN) ((Fr.refl _).alloc _)⟩) rfl (fun b (h : w0.heap.size ≤ b) => ⟨by omega, fun _ e => by have := (hro _ e.symm).2; omega⟩) hown1 hgrow hat (by simp)
          have hf5 : Fr wA w5 := ((hf.step hfi).alloc _).grown hgrow (fun q h => by have := (hro _ h).1; omega)
          have HOR5 := Lib.hid hor5
          clear hor5 hown1 hgrow hat
          go_wp2
          go_roundw
          case rel => exact ⟨k + 1, by omega, by simp, ⟨_, HOR5.out⟩, hf5⟩
          case measure => simp [intOf]; omega
    · have hkn : k = n := by omega
      subst hkn
      have hls : m.take k = m := by rw [Hn.out, List.take_length]
      have hor := Hor.out
      rw [hls] at hor
      obtain ⟨g2, c2, hv2, hrow⟩ := hor.done LF (by rw [← Hn.out]; exact h0)
      rw [← Hn.out] at hv2
      subst hv2
      have Hrow := Lib.hid hrow
      clear hrow hor hls Hor
      go_wp2_with fail
      refine (newMatrix_any _ _ _ _).mono ?_
      rintro e w2 ⟨rfl, hf2⟩
      have hsz2 := hf2.size
      go_wp2_with fail
      refine (New_blk _).mono ?_
      rintro e w3 ⟨rfl, hb3, hs3, hf3⟩
      go_wp2_with fail
      refine (New_blk _).mono ?_
      rintro e w4 ⟨rfl, hb4, hs4, hf4⟩
      simp at hb3 hs3
      have hsA2 : w.heap.size + 2 ≤ w2.heap.size := by omega
      have hOB : w4.heap[w2.heap.size]? = some (.cells #[.string mt, .float .f64 0, .string mt, .slice none 0 0, .slice (some ⟨g2, 0, none⟩) k c2, .bool false, .string mt, .int .u8 4, .pointer none, .pointer none] 54 (0, 0)) :=
        (hf4.block _ (by omega)).trans ((hf3.block _ (by simp)).trans (at_new rfl))
      obtain ⟨cB, zB⟩ := obj_rules2 hOB
      have lB : w2.heap.size < w4.heap.size := block_lt hOB
      have HOB := Lib.hid hOB; clear hOB
      have hw4 : Fr wr w4 := ((hf2.alloc _).step hf3).step hf4
      have hrow4 := (Hrow.out.fr LF hw4)
      obtain ⟨cs0, ⟨h1, cap1, rfl, hr1⟩, hcs0⟩ := hrow4.at (i := 0) (by rw [← Hn.out]; exact h0)
      have c0 := hcs0 0 _ rfl
      simp only [Nat.zero_add, Nat.add_zero, Nat.mul_one, Nat.zero_mul] at c0
      clear hcs0 hr1
      have lg2 := hrow4.lt
      have hg2 := hrow4.in
      have hhd := Lib.hid (show m.headD [] = m[0]'(by rw [← Hn.out]; exact h0) by cases m with | nil => exact absurd Hn.out (by simp; omega) | cons x l => rfl)
      generalize m[0]'(by rw [← Hn.out]; exact h0) = r0 at *
      rw [hs3] at hb4 hs4
      have hqq : ((w4.setCell ⟨w2.heap.size, 8, none⟩ (.pointer (some ⟨w2.heap.size + 1, 0, none⟩))).setCell ⟨w2.heap.size, 9, none⟩ (.pointer (some ⟨w2.heap.size + 1 + 1, 0, none⟩))).heap[w2.heap.size + 1 + 1]? = some (.cells (nilL (w2.heap.size + 1 + 1)) 89 (0, 0)) :=
        (Below.heap_setCell _ _ _ _ (by show w2.heap.size + 1 + 1 ≠ w2.heap.size; omega)).trans ((Below.heap_setCell _ _ _ _ (by show w2.heap.size + 1 + 1 ≠ w2.heap.size; omega)).trans hb4)
      have Hqq := Lib.hid hqq; clear hqq
      have Hb3 := Lib.hid hb3; clear hb3
      have Hb4 := Lib.hid hb4; clear hb4
      have Hres := Lib.hid hres; clear hres
      have lgw : g2 < w4.heap.size := lg2
      have hng : ¬ g2 = w2.heap.size := by have := Hrow.out.lt; have := hf2.size; omega
      have hk0 : (0 : Int) < (k : Int) := by omega
      go_wp2
      go_region_law
        (first
          | (go_simp
             refine (PushBack_one ((w4.setCell ⟨w2.heap.size, 8, none⟩ (.pointer (some ⟨w2.heap.size + 1, 0, none⟩))).setCell ⟨w2.heap.size, 9, none⟩ (.pointer (some ⟨w2.heap.size + 1 + 1, 0, none⟩))).drew (w2.heap.size + 1 + 1) 97 #[.int .i64 1, .int .i64 1, .string ⟨#[83, 104, 101, 101, 116, 49]⟩, .int .i64 r0.length, .int .i64 k, .string ⟨#[83, 104, 101, 101, 116, 49]⟩] Hqq.out).mono ?_
             rintro e w5 ⟨⟨a5, rfl⟩, hq5, hb5, hs5, hbl⟩))
      all_goals
        simp at hb5 hs5 hq5
        have hOB4 := heap_setCell_same _ _ 9 _ _ (Value.pointer (some ⟨w2.heap.size + 1 + 1, 0, none⟩)) (heap_setCell_same _ _ 8 _ _ (Value.pointer (some ⟨w2.heap.size + 1, 0, none⟩)) HOB.out)
        have hOB5 := (hbl.block w2.heap.size (by omega)).trans hOB4
        obtain ⟨cB5, zB5⟩ := obj_rules2 hOB5
        have hR5 := (hbl.block (w.heap.size + 1) (by omega)).trans (far_set (far_set ((hw4.block _ (by omega)).trans ((hf.block _ (by omega)).trans Hres.out)) ⟨w2.heap.size, 8, none⟩ (.pointer (some ⟨w2.heap.size + 1, 0, none⟩)) (by show w.heap.size + 1 ≠ w2.heap.size; omega)) ⟨w2.heap.size, 9, none⟩ (.pointer (some ⟨w2.heap.size + 1 + 1, 0, none⟩)) (by show w.heap.size + 1 ≠ w2.heap.size; omega))
        obtain ⟨cR5, zR5⟩ := obj_rules2 hR5
        unfold zFa at cR5
        have hp5 := (hbl.block (w2.heap.size + 1) (by omega)).trans (far_set (far_set ((hf4.block _ (by omega)).trans Hb3.out) ⟨w2.heap.size, 8, none⟩ (.pointer (some ⟨w2.heap.size + 1, 0, none⟩)) (by show w2.heap.size + 1 ≠ w2.heap.size; omega)) ⟨w2.heap.size, 9, none⟩ (.pointer (some ⟨w2.heap.size + 1 + 1, 0, none⟩)) (by show w2.heap.size + 1 ≠ w2.heap.size; omega))
        have hrow5 := (Hrow.out.cut LF).same (w' := w5) LF (fun b hb hlt => (hbl.block b (by omega)).trans ((Below.heap_setCell _ ⟨w2.heap.size, 9, none⟩ (.pointer (some ⟨w2.heap.size + 1 + 1, 0, none⟩)) b (by show b ≠ w2.heap.size; omega)).trans ((Below.heap_setCell _ ⟨w2.heap.size, 8, none⟩ (.pointer (some ⟨w2.heap.size + 1, 0, none⟩)) b (by show b ≠ w2.heap.size; omega)).trans (hw4.block b hlt))))
        have hf5 : Fr w w5 := by
          have h1 : Fr w (((w4.setCell ⟨w2.heap.size, 8, none⟩ (.pointer (some ⟨w2.heap.size + 1, 0, none⟩))).setCell ⟨w2.heap.size, 9, none⟩ (.pointer (some ⟨w2.heap.size + 1 + 1, 0, none⟩))).drew) :=
            (Fr.set (by show w.heap.size ≤ w2.heap.size; omega) (Fr.set (by show w.heap.size ≤ w2.heap.size; omega) ((hfA.step hf).step hw4) _) _).drew
          exact h1.tail hbl (by omega)
        have HP5 := Lib.hid hp5
        have HQ5 := Lib.hid hq5
        have HB5 := Lib.hid hb5
        have HROW5 := Lib.hid hrow5
        clear hp5 hq5 hb5 hrow5 hOB5 hOB4 hR5 hbl
        go_wp2
        exact bodyPost_ret (v := .agg #[.string mt, .float .f64 0, .string mt, .slice none 0 0, .slice (some ⟨g2, 0, none⟩) k c2, .bool false, .string mt, .int .u8 4, .pointer (some ⟨w2.heap.size + 1, 0, none⟩), .pointer (some ⟨w2.heap.size + 1 + 1, 0, none⟩)]) (by simp [results, Tryz.results39, go_sem, sv, mt, *]) rfl ⟨g2, c2, _, _, rfl, by
          refine ⟨g2, c2, w2.heap.size + 1, w2.heap.size + 1 + 1, w4.heap.size, by rw [← Hn.out], ?_, by show w.heap.size ≤ _; omega, by show w.heap.size ≤ _; omega, by show w.heap.size ≤ _; omega, ?_, ?_, ?_⟩
          · refine RowOf.mono LF (S := fun b => w.heap.size + 2 ≤ b) ?_ (fun b (h : w.heap.size + 2 ≤ b) => by omega)
            (iterate 10 refine RowOf.low LF ?_ _ _ (by simp))
            exact HROW5.out.mono LF fun b h => h.1
          · (iterate 10 refine far_set ?_ _ _ (by show w2.heap.size + 1 ≠ w.heap.size + 1; omega))
            exact HP5.out
          · (iterate 10 refine far_set ?_ _ _ (by show w2.heap.size + 1 + 1 ≠ w.heap.size + 1; omega))
            exact HQ5.out
          · (iterate 10 refine far_set ?_ _ _ (by show w4.heap.size ≠ w.heap.size + 1; omega))
            rw [hhd.out, ← Hn.out]
            exact HB5.out, by
          (iterate 10 refine Fr.set (by show w.heap.size ≤ w.heap.size + 1; omega) ?_ _)
          exact hf5⟩
end Go.Proofs.YtlhonpmpchkkfaaGreatDoor
