import Derived.Test.YtlhonpmpchkkfaaGreatDoorGJ
import Derived.Deep.RegionLaw
set_option linter.unusedSimpArgs false
set_option linter.unusedVariables false
/- A matrix of the reference as one of the program. -/
namespace Go.Proofs.YtlhonpmpchkkfaaGreatDoor
open Go.RowKit
open Fl
open Ieee (double)
theorem obj_rules2 {W : World} {b : Nat} {cs : Array Value} {ty : TypeId} (h : W.heap[b]? = some (.cells cs ty (0, 0))) : (∀ j, W.cell? ⟨b, j, none⟩ = cs[j]?) ∧ (∀ j, W.frozen? ⟨b, j, none⟩ = false) :=
  ⟨fun j => Lib.cell_of_heap h j, fun j => by simp [World.frozen?, h]⟩
/-- A matrix: what lies behind its slice of rows. -/
abbrev MS (cs : Int → List Value) (sz : Nat) : Say (List (List Int)) := ESl (ESl (ENum cs) sz) 1
theorem lie_ms (cs : Int → List Value) (sz : Nat) : Lie (MS cs sz) := lie_sl (lie_sl (lie_num cs) sz) 1
abbrev EM : Say (List (List Int)) := EPre [.int .i64 5, .int .i64 0, .int .i64 0, .string mt] (MS vN 5)
abbrev EI : Say (List (List Int)) := EPre [.int .i64 5, .float .f64 0, .string mt] (MS iN 4)
theorem lie_em : Lie EM := lie_pre (lie_ms vN 5) _
theorem lie_ei : Lie EI := lie_pre (lie_ms iN 4) _
/-- A matrix of some rows of some numbers. -/
def Fit (m : List (List Int)) : Prop := 0 < m.length ∧ m.length ≤ 30 ∧ ∀ r ∈ m, 0 < r.length ∧ r.length ≤ 30 ∧ ∀ x ∈ r, x.natAbs < 2 ^ 53
theorem Tryz.infoIVals : (Tryz.prog.info? 34).map (fun i => (i.zero, i.size, i.bytes)) = some (some (.slice none 0 0), 1, 24) := by kernel_rfl
set_option maxRecDepth 100000 in
set_option maxHeartbeats 4000000 in
theorem of_mat (R cap : Nat) (m : List (List Int)) (w : World) (S : Nat → Prop) (hv : RowOf (ESl (ENum vN) 5) 1 w S R 0 m) (hm : Fit m) :
    Calls Tryz.prog 8 #[.agg #[.int .i64 5, .int .i64 0, .int .i64 0, .string mt, .slice (some ⟨R, 0, none⟩) m.length cap]] w fun e w' => ∃ g cap', e = .returned (.agg #[.int .i64 5, .float .f64 0, .string mt, .slice (some ⟨g, 0, none⟩) m.length cap']) ∧
      RowOf (ESl (ENum iN) 4) 1 w' (fun b => w.heap.size ≤ b) g 0 m ∧ Fr w w' := by
  have Hv := Lib.hid hv; clear hv
  obtain ⟨h0, h30, hr⟩ := hm
  have HR := Lib.hid hr; clear hr
  obtain ⟨i0, hi, hz0, hz1, hz2⟩ := info_parts Tryz.infoIVals
  obtain ⟨n, hn⟩ : ∃ n, n = m.length := ⟨_, rfl⟩
  have Hn := Lib.hid hn
  rw [← hn] at h0 h30 ⊢
  clear hn
  have hRlt := Hv.out.lt
  have LV := lie_sl (lie_num vN) 5
  have LI := lie_sl (lie_num iN) 4
  go_enter Tryz.func8, Tryz.ntmps8
  go_wp2
  go_loopw [4] (fun i wr => ∃ k : Nat, k ≤ n ∧ i = .int .i64 k ∧ wr.heap[w.heap.size]? = some (.cells #[.int .i64 5, .int .i64 0, .int .i64 0, .string mt, .slice (some ⟨R, 0, none⟩) n cap] 25 (0, 0)) ∧
    wr.heap[w.heap.size + 1]? = some (.cells #[.int .i64 0, .float .f64 0, .string mt, .slice none 0 0] 30 (0, 0)) ∧
    (∃ v css, wr.heap[w.heap.size + 2]? = some (.cells #[.int .i64 5, .float .f64 0, .string mt, v] 30 (0, 0)) ∧ OR (ESl (ENum iN) 4) wr (w.heap.size + 3) 34 1 v (m.take k) css) ∧ Fr w wr) (fun i _ => n - (intOf i).toNat)
  case atStart =>
    refine ⟨0, Nat.zero_le _, rfl, ?_, ?_, ⟨_, _, ?_, by simpa using OR.nil _ _ _ _ _⟩, (by repeat (first | (with_reducible exact Fr.refl _) | ((with_reducible refine Fr.set ?_ ?_ _); focus (simp; done)) | (with_reducible refine Fr.alloc ?_ _) | (with_reducible refine Fr.drew ?_) | (with_reducible refine Fr.step ?_ (by assumption))))⟩
    · exact at_old (at_old (at_new rfl))
    · exact at_old (at_new (by simp))
    · exact at_new (by simp)
  case round =>
    obtain ⟨k, hk, rfl, hV, hU, ⟨v, css, hO, hor⟩, hf⟩ := hrel
    have Hor := Lib.hid hor; clear hor
    obtain ⟨cV, zV⟩ := obj_rules2 hV
    obtain ⟨cU, zU⟩ := obj_rules2 hU
    obtain ⟨cO, zO⟩ := obj_rules2 hO
    have HV := Lib.hid hV; clear hV
    have HU := Lib.hid hU; clear hU
    have HO := Lib.hid hO; clear hO
    by_cases hlt : k < n
    · have hkl : k < m.length := by rw [← Hn.out]; exact hlt
      obtain ⟨cs, ⟨g1, cap1, rfl, hrow⟩, hcs⟩ := (Hv.out.fr LV hf).at hkl
      have c0 := hcs 0 _ rfl
      simp only [Nat.zero_add, Nat.add_zero, Nat.mul_one] at c0
      clear hcs
      have hrl := HR.out _ (List.getElem_mem hkl)
      have hsz := hf.size
      have HRow := Lib.hid hrow; clear hrow
      have Hml := Lib.hid (show m[k].length = m[k].length from rfl)
      generalize hrr : m[k] = r at *
      have Hrr := Lib.hid hrr; clear hrr
      have hlr : 0 < wr.heap.size := by omega
      have lO : w.heap.size + 2 < wr.heap.size := block_lt HO.out
      have lR : R < wr.heap.size := by omega
      have lV : w.heap.size < wr.heap.size := by omega
      have hk0 : (0 : Int) ≤ (k : Int) := Int.natCast_nonneg _
      have hk1 : (k : Int) < (n : Int) := by omega
      have c4 := cV 4
      have c3 := cO 3
      simp at c4 c3
      go_wp2_with fail
      go_region_law
        (first
          | (go_simp
             refine (all_gen (lie_num vN) (lie_num iN) S g1 cap1 r _ (HRow.out.fr (lie_num vN) ((Fr.refl _).drew)) hrl.1 hrl.2.1 (fun x hx => ofC_num x (hrl.2.2 x hx))).mono ?_
             rintro e wa ⟨ga, ca, rfl, hra, hfa⟩
             have hca := hfa.cells.1
             have hsa := hfa.size
             (try simp at hca)
             (try simp at hsa)
             have ha1 : w.heap.size + 2 < wa.heap.size := by omega
             have ha2 : R < wa.heap.size := by omega
             have ha0 : w.heap.size < wa.heap.size := by omega
             have k3 := (hca _ _ lO).trans c3
             have k4 := (hca _ _ lV).trans c4
             have k0 := (hca _ _ lR).trans c0)
          | (refine step_append_lies _ (by rfl) _ _ _ (by rfl) (w.heap.size + 3) 34 i0 _ 1 24 Tryz.underlying28 hi hz0 hz1 hz2 rfl (by omega) v k css.flatten (by rfl) ((((Hor.out.fr LI ((Fr.refl _).drew)).fr LI hfa).alloc LI _).take (Nat.le_of_lt hkl))
               ⟨wa.heap.size, 0, none⟩ 1 1 [.slice (some ⟨ga, 0, none⟩) r.length ca] (by rfl) (by rfl) (news_new rfl rfl) (oneCells rfl) (by omega) (by simp only [maxLen]; omega) (by omega) (by simp; omega) (wa.heap.size + 1) (by simp) ?_
             intro gg cap5 w5 hown1 hgrow hat hlt5
             have hO5 := (hgrow.block _ (Nat.lt_of_lt_of_le ha1 (by simp)) (fun e => by have := (Hor.out.lt _ e.symm).1; omega)).trans (at_old ((hfa.block _ lO).trans HO.out))
             have z5 : w5.frozen? ⟨w.heap.size + 1 + 1, 3, none⟩ = false := (obj_rules2 hO5).2 3
             have q3 : w5.cell? ⟨w.heap.size + 1 + 1, 3, none⟩ = some v := (obj_rules2 hO5).1 3
             have HO5 := Lib.hid hO5; clear hO5))
      all_goals
        have hro := Hor.out.lt
        have hV5 := (Below.heap_setCell _ ⟨w.heap.size + 1 + 1, 3, none⟩ (.slice (some ⟨gg, 0, none⟩) (k + 1) cap5) w.heap.size (by show w.heap.size ≠ w.heap.size + 1 + 1; omega)).trans ((hgrow.block _ (Nat.lt_of_lt_of_le ha0 (by simp)) (fun e => by have := (hro _ e.symm).1; omega)).trans (at_old ((hfa.block _ lV).trans HV.out)))
        have hU5 := (Below.heap_setCell _ ⟨w.heap.size + 1 + 1, 3, none⟩ (.slice (some ⟨gg, 0, none⟩) (k + 1) cap5) (w.heap.size + 1) (by show w.heap.size + 1 ≠ w.heap.size + 1 + 1; omega)).trans ((hgrow.block _ (show w.heap.size + 1 < _ by simp; omega) (fun e => by have := (hro _ e.symm).1; omega)).trans (at_old ((hfa.block _ (show w.heap.size + 1 < wr.heap.size by omega)).trans HU.out)))
        have hO6 := heap_setCell_same _ _ 3 _ _ (Value.slice (some ⟨gg, 0, none⟩) (k + 1) cap5) HO5.out
        have hor5 := (((((Hor.out.fr LI ((Fr.refl _).drew)).fr LI hfa).alloc LI (.cells #[.slice (some ⟨ga, 0, none⟩) r.length ca] 34)).next LI (S := fun b => wr.heap.size ≤ b) (c := [.slice (some ⟨ga, 0, none⟩) r.length ca]) hkl
          (by rw [Hrr.out]; exact ⟨ga, ca, rfl, hra.fr (lie_num iN) ((Fr.refl _).alloc _)⟩) rfl (fun b (h : wr.heap.size ≤ b) => ⟨by omega, fun _ e => by have := (hro _ e.symm).2; omega⟩) hown1 hgrow hat (by simp))).low LI ⟨w.heap.size + 1 + 1, 3, none⟩ (.slice (some ⟨gg, 0, none⟩) (k + 1) cap5) (by simp)
        have hf5 : Fr w w5 := (((hf.drew).step hfa).alloc _).grown hgrow (fun q h => by have := (hro _ h).1; omega)
        have HV5 := Lib.hid hV5
        have HU5 := Lib.hid hU5
        have HO6 := Lib.hid hO6
        have HOR5 := Lib.hid hor5
        clear hV5 hU5 hO6 hor5 hown1 hgrow hat z5 q3
        go_wp2
        go_roundw
        case rel => exact ⟨k + 1, by omega, by simp, HV5.out, HU5.out, ⟨_, _, HO6.out, HOR5.out⟩, Fr.set (by show w.heap.size ≤ w.heap.size + 1 + 1; omega) hf5 _⟩
        case measure => simp [intOf]; omega
    · have hkn : k = n := by omega
      subst hkn
      have hls : m.take k = m := by rw [Hn.out, List.take_length]
      have hor := Hor.out
      rw [hls] at hor
      obtain ⟨g2, c, hv2, hrow⟩ := hor.done LI (by rw [← Hn.out]; exact h0)
      rw [← Hn.out] at hv2
      subst hv2
      have Hrow := Lib.hid hrow
      clear hrow hor hls Hor
      have hsz := hf.size
      go_wp2
      exact bodyPost_ret (v := .agg #[.int .i64 5, .float .f64 0, .string mt, .slice (some ⟨g2, 0, none⟩) k c]) (by simp [results, Tryz.results8, go_sem, sv, mt, *]) rfl ⟨g2, c, rfl, by refine RowOf.mono LI (S := fun b => w.heap.size + 3 ≤ b) ?_ (fun b (h : w.heap.size + 3 ≤ b) => by omega); (iterate 4 refine RowOf.low LI ?_ _ _ (by simp)); exact Hrow.out, (by repeat (first | (with_reducible exact Fr.refl _) | ((with_reducible refine Fr.set ?_ ?_ _); focus (simp; done)) | (with_reducible refine Fr.alloc ?_ _) | (with_reducible refine Fr.drew ?_) | (with_reducible refine Fr.step ?_ (by assumption))))⟩
end Go.Proofs.YtlhonpmpchkkfaaGreatDoor
