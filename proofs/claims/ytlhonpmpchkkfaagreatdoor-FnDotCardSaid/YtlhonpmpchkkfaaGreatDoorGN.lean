import Derived.Test.YtlhonpmpchkkfaaGreatDoorD14
import Derived.Test.YtlhonpmpchkkfaaGreatDoorGF
set_option linter.unusedSimpArgs false
set_option linter.unusedVariables false
/- A matrix of arguments as plain data. -/
namespace Go.Proofs.YtlhonpmpchkkfaaGreatDoor
open Go.RowKit
open Fl
open Ieee (double)
set_option maxRecDepth 100000 in
set_option maxHeartbeats 4000000 in
theorem doorRows_mat (R cap : Nat) (m : List (List Int)) (w : World) (S : Nat → Prop) (hv : RowOf (ESl (ENum fN) 10) 1 w S R 0 m) (hm : Fit m) :
    Calls Tryz.prog 28 #[.slice (some ⟨R, 0, none⟩) m.length cap] w fun e w' => ∃ R' cap', e = .returned (.slice (some ⟨R', 0, none⟩) m.length cap') ∧ RowOf (ESl (ENum iN) 4) 1 w' (fun b => w.heap.size ≤ b) R' 0 m ∧ Fr w w' := by
  have Hv := Lib.hid hv; clear hv
  obtain ⟨h0, h30, hr⟩ := hm
  have HR := Lib.hid hr; clear hr
  have LI := lie_sl (lie_num iN) 4
  have LF := lie_sl (lie_num fN) 10
  obtain ⟨i0, hi, hz0, hz1, hz2⟩ := info_parts Tryz.infoArg
  obtain ⟨i1, hj, hy0, hy1, hy2⟩ := info_parts Tryz.infoArgs
  obtain ⟨n, hn⟩ : ∃ n, n = m.length := ⟨_, rfl⟩
  have Hn := Lib.hid hn
  rw [← hn] at h0 h30 ⊢
  clear hn
  have hRlt := Hv.out.lt
  go_enter Tryz.func28, Tryz.ntmps28
  go_wp2
  go_loopw [3, 11] (fun v i wr => ∃ k : Nat, k ≤ n ∧ i = .int .i64 k ∧ (∃ css, OR (ESl (ENum iN) 4) wr w.heap.size 44 1 v (m.take k) css) ∧ Fr w wr) (fun _ i _ => n - (intOf i).toNat)
  case atStart => exact ⟨0, Nat.zero_le _, rfl, ⟨_, by simpa using OR.nil _ _ _ _ _⟩, Fr.refl _⟩
  case round =>
    obtain ⟨k, hk, rfl, ⟨css, hor⟩, hf⟩ := hrel
    have Hor := Lib.hid hor; clear hor
    have hsz := hf.size
    by_cases hlt : k < n
    · have hkl : k < m.length := by rw [← Hn.out]; exact hlt
      obtain ⟨cs, ⟨g1, cap1, rfl, hrow⟩, hcs⟩ := (Hv.out.fr LF hf).at hkl
      have c0 := hcs 0 _ rfl
      simp only [Nat.zero_add, Nat.add_zero, Nat.mul_one] at c0
      clear hcs
      obtain ⟨r0, r30, _⟩ := HR.out _ (List.getElem_mem hkl)
      have HRow := Lib.hid hrow; clear hrow
      generalize hmk : m[k] = r at *
      have Hmk := Lib.hid hmk; clear hmk
      obtain ⟨p, hp⟩ : ∃ p, p = r.length := ⟨_, rfl⟩
      rw [← hp] at r0 r30 c0
      have Hp := Lib.hid hp; clear hp
      have lR : R < wr.heap.size := by omega
      obtain ⟨w0, e0⟩ : ∃ w0, w0 = wr := ⟨_, rfl⟩
      subst e0
      go_wp2
      go_loopw [6, 17] (fun u i wi => ∃ q : Nat, q ≤ p ∧ i = .int .i64 q ∧ (∃ css, OR (ENum iN) wi w0.heap.size 42 4 u (r.take q) css) ∧ Fr w0 wi) (fun _ i _ => p - (intOf i).toNat)
      case atStart => exact ⟨0, Nat.zero_le _, rfl, ⟨_, by simpa using OR.nil _ _ _ _ _⟩, Fr.refl _⟩
      case round =>
        obtain ⟨q, hq, rfl, ⟨css1, hor1⟩, hfi⟩ := hrel
        have Hor1 := Lib.hid hor1; clear hor1
        have hszi := hfi.size
        by_cases hqp : q < p
        · have hqr : q < r.length := by rw [← Hp.out]; exact hqp
          obtain ⟨cs2, hE, hcs2⟩ := (HRow.out.fr (lie_num fN) hfi).at hqr
          have hE' : cs2 = fN r[q] := hE
          subst hE'
          have hg1 : g1 < wr.heap.size := (HRow.out.fr (lie_num fN) hfi).lt
          have d0 := hcs2 0 _ rfl
          have d1 := hcs2 1 _ rfl
          have d2 := hcs2 2 _ rfl
          have d3 := hcs2 3 _ rfl
          have d4 := hcs2 4 _ rfl
          have d5 := hcs2 5 _ rfl
          have d6 := hcs2 6 _ rfl
          have d7 := hcs2 7 _ rfl
          have d8 := hcs2 8 _ rfl
          have d9 := hcs2 9 _ rfl
          simp only [Nat.zero_add, Nat.add_zero] at d0 d1 d2 d3 d4 d5 d6 d7 d8 d9
          clear hcs2 hE
          generalize hrq : r[q] = x at *
          have Hrq := Lib.hid hrq; clear hrq
          have hcall := Lib.hid (fun W => doorArg_num (fw x) W)
          unfold fa at hcall
          go_wp2_with fail
          refine (hcall.out _).mono ?_
          rintro e w1 ⟨rfl, hf1⟩
          have hf2 : Fr w0 w1 := (hfi.alloc _).step hf1
          have hsz1 := hf1.size
          simp at hsz1
          have Hor2 := Lib.hid ((Hor1.out.alloc (lie_num iN) (.cells #[.string mt, .float .f64 (fw x), .string mt, .slice none 0 0, .slice none 0 0, .bool false, .string mt, .int .u8 1, .pointer none, .pointer none] 54)).fr (lie_num iN) hf1)
          clear d0 d1 d2 d3 d4 d5 d6 d7 d8 d9 hcall
          unfold iv
          go_wp2_with (at_builtin; refine wpList_append_lies _ rfl _ _ 44 rfl w0.heap.size 42 i0 (iv 0 0 mt) 4 56 Tryz.underlying44 hi hz0 hz1 hz2 rfl (by decide) _ _ _ rfl ((Hor2.out.alloc (lie_num iN) _).take (Nat.le_of_lt hqr)) ⟨w1.heap.size, 0, none⟩ 1 1 (iN x) rfl rfl (news_new rfl rfl) (oneCells rfl) (by decide) (by simp only [maxLen]; omega) (by omega) (by simp; omega) _ rfl ?_)
          intro g5 cap5 w5 hown1 hgrow hat hlt5
          have hor5 := (Hor2.out.alloc (lie_num iN) (.cells #[.int .i64 1, .float .f64 (fw x), .string mt, .slice none 0 0] 42)).next (lie_num iN) (S := fun _ => False) (c := iN x) hqr (by rw [Hrq.out]; rfl) rfl (fun b h => h.elim) hown1 hgrow hat (by simp)
          have hf5 : Fr w0 w5 := (hf2.alloc _).grown hgrow (fun q h => (Hor1.out.lt _ h).1)
          have HOR5 := Lib.hid hor5
          clear hor5 hown1 hgrow hat
          go_wp2
          go_roundw
          case rel => exact ⟨q + 1, by omega, by simp, ⟨_, HOR5.out⟩, hf5⟩
          case measure => simp [intOf]; omega
        · have hqe : q = p := by omega
          subst hqe
          have hls : r.take q = r := by rw [Hp.out, List.take_length]
          have hor := Hor1.out
          rw [hls] at hor
          obtain ⟨g2, c2', hv2, hrow2⟩ := hor.done (lie_num iN) (by rw [← Hp.out]; exact r0)
          rw [← Hp.out] at hv2
          subst hv2
          have Hrow2 := Lib.hid hrow2
          clear hrow2 hor hls Hor1
          have Hor2 := Lib.hid (Hor.out.fr LI hfi)
          go_wp2_with (at_builtin; refine wpList_append_lies _ rfl _ _ 40 rfl w.heap.size 44 i1 (.slice none 0 0) 1 24 Tryz.underlying40 hj hy0 hy1 hy2 rfl (by decide) _ _ _ rfl ((Hor2.out.alloc LI _).take (Nat.le_of_lt hkl)) ⟨wr.heap.size, 0, none⟩ 1 1 [.slice (some ⟨g2, 0, none⟩) q c2'] rfl rfl (news_new rfl rfl) (oneCells rfl) (by decide) (by simp only [maxLen]; omega) (by omega) (by simp; omega) _ rfl ?_)
          intro g5 cap5 w5 hown1 hgrow hat hlt5
          have hro := Hor.out.lt
          have hor5 := (Hor2.out.alloc LI (.cells #[.slice (some ⟨g2, 0, none⟩) q c2'] 44)).next LI (S := fun b => w0.heap.size ≤ b) (c := [.slice (some ⟨g2, 0, none⟩) q c2']) hkl
            (by rw [Hmk.out]; exact ⟨g2, c2', by rw [← Hp.out], Hrow2.out.fr (lie_num iN) ((Fr.refl _).alloc _)⟩) rfl (fun b (h : w0.heap.size ≤ b) => ⟨by omega, fun _ e => by have := (hro _ e.symm).2; omega⟩) hown1 hgrow hat (by simp)
          have hf5 : Fr w w5 := ((hf.step hfi).alloc _).grown hgrow (fun q h => (hro _ h).1)
          have HOR5 := Lib.hid hor5
          clear hor5 hown1 hgrow hat
          go_wp2
          go_roundw
          case rel => exact ⟨k + 1, by omega, by simp, ⟨_, HOR5.out⟩, hf5⟩
          case measure => simp [intOf]; omega
    · have hkn : k = n := by omega
      subst hkn
      have hls : m.take k = m := by rw [Hn.out, List.take_length]
      have hor := Hor.out
      rw [hls] at hor
      obtain ⟨g2, c2, hv2, hrow⟩ := hor.done LI (by rw [← Hn.out]; exact h0)
      rw [← Hn.out] at hv2
      subst hv2
      have Hrow := Lib.hid hrow
      clear hrow hor hls Hor
      go_wp2
      go_ret
      exact ⟨g2, c2, rfl, Hrow.out, hf⟩
set_option maxRecDepth 100000 in
set_option maxHeartbeats 4000000 in
theorem doorArg_mat (R cap : Nat) (P Q : Option Addr) (m : List (List Int)) (w : World) (S : Nat → Prop) (hv : RowOf (ESl (ENum fN) 10) 1 w S R 0 m) (hm : Fit m) :
    Calls Tryz.prog 21 #[.agg #[.string mt, .float .f64 0, .string mt, .slice none 0 0, .slice (some ⟨R, 0, none⟩) m.length cap, .bool false, .string mt, .int .u8 4, .pointer P, .pointer Q]] w fun e w' => ∃ R' cap',
      e = .returned (.agg #[.int .i64 5, .float .f64 0, .string mt, .slice (some ⟨R', 0, none⟩) m.length cap']) ∧ RowOf (ESl (ENum iN) 4) 1 w' (fun b => w.heap.size ≤ b) R' 0 m ∧ Fr w w' := by
  have Hv := Lib.hid hv; clear hv
  have HD := Lib.hid (fun W h => doorRows_mat R cap m W S h hm)
  have LI := lie_sl (lie_num iN) 4
  have LF := lie_sl (lie_num fN) 10
  clear hm
  obtain ⟨n, hn⟩ : ∃ n, n = m.length := ⟨_, rfl⟩
  rw [← hn] at HD ⊢
  clear hn
  go_enter Tryz.func21, Tryz.ntmps21
  go_wp2_with fail
  refine (HD.out _ (Hv.out.fr LF (by repeat (first | (with_reducible exact Fr.refl _) | ((with_reducible refine Fr.set ?_ ?_ _); focus (simp; done)) | (with_reducible refine Fr.alloc ?_ _) | (with_reducible refine Fr.drew ?_) | (with_reducible refine Fr.step ?_ (by assumption)))))).mono ?_
  rintro e w1 ⟨R', cap', rfl, hr1, hf1⟩
  have hsz1 := hf1.size
  simp at hsz1
  have l1 : w.heap.size + 1 < w1.heap.size := by omega
  have hres := (hf1.block (w.heap.size + 1) (by simp)).trans (at_new (by simp))
  obtain ⟨cR, zR⟩ := obj_rules2 hres
  have Hr1 := Lib.hid hr1; clear hr1 hres
  go_wp2
  exact bodyPost_ret (v := .agg #[.int .i64 5, .float .f64 0, .string mt, .slice (some ⟨R', 0, none⟩) n cap']) (by simp [results, Tryz.results21, go_sem, sv, mt, *]) rfl ⟨R', cap', rfl, by
    refine RowOf.mono LI (S := fun b => w.heap.size + 2 ≤ b) ?_ (fun b (h : w.heap.size + 2 ≤ b) => by omega)
    (iterate 4 refine RowOf.low LI ?_ _ _ (by simp))
    exact Hr1.out.mono LI (fun b h => by simpa using h), by
    (iterate 4 refine Fr.set (by simp) ?_ _)
    exact Fr.step ((by repeat (first | (with_reducible exact Fr.refl _) | ((with_reducible refine Fr.set ?_ ?_ _); focus (simp; done)) | (with_reducible refine Fr.alloc ?_ _) | (with_reducible refine Fr.drew ?_) | (with_reducible refine Fr.step ?_ (by assumption))))) hf1⟩
end Go.Proofs.YtlhonpmpchkkfaaGreatDoor
/- Plain data of the package as a matrix of the program. -/
namespace Go.Proofs.YtlhonpmpchkkfaaGreatDoor
open Go.RowKit
open Fl
open Ieee (double)
set_option maxRecDepth 100000 in
set_option maxHeartbeats 4000000 in
theorem out_mat (R cap : Nat) (m : List (List Int)) (w : World) (S : Nat → Prop) (hv : RowOf (ESl (ENum iN) 4) 1 w S R 0 m) (hm : Fit m) :
    Calls Tryz.prog 13 #[.agg #[.int .i64 5, .float .f64 0, .string mt, .slice (some ⟨R, 0, none⟩) m.length cap]] w fun e w' => ∃ R' cap',
      e = .returned (.agg #[.int .i64 5, .float .f64 0, .string mt, .slice (some ⟨R', 0, none⟩) m.length cap']) ∧ RowOf (ESl (ENum iN) 4) 1 w' (fun b => w.heap.size ≤ b) R' 0 m ∧ Fr w w' := by
  have Hv := Lib.hid hv; clear hv
  obtain ⟨h0, h30, hr⟩ := hm
  have HR := Lib.hid hr; clear hr
  have LI := lie_sl (lie_num iN) 4
  obtain ⟨i0, hi, hz0, hz1, hz2⟩ := info_parts Tryz.infoIVal
  obtain ⟨i1, hj, hy0, hy1, hy2⟩ := info_parts Tryz.infoIVals
  obtain ⟨n, hn⟩ : ∃ n, n = m.length := ⟨_, rfl⟩
  have Hn := Lib.hid hn
  rw [← hn] at h0 h30 ⊢
  clear hn
  have hRlt := Hv.out.lt
  go_enter Tryz.func13, Tryz.ntmps13
  go_wp2
  go_loopw [19] (fun i wr => ∃ k : Nat, k ≤ n ∧ i = .int .i64 k ∧
    wr.heap[w.heap.size + 1]? = some (.cells #[.int .i64 0, .float .f64 0, .string mt, .slice none 0 0] 30 (0, 0)) ∧
    (∃ v css, wr.heap[w.heap.size + 2]? = some (.cells #[.int .i64 5, .float .f64 0, .string mt, v] 30 (0, 0)) ∧ OR (ESl (ENum iN) 4) wr (w.heap.size + 3) 34 1 v (m.take k) css) ∧ Fr w wr) (fun i _ => n - (intOf i).toNat)
  case atStart =>
    refine ⟨0, Nat.zero_le _, rfl, ?_, ⟨_, _, ?_, by simpa using OR.nil _ _ _ _ _⟩, (by repeat (first | (with_reducible exact Fr.refl _) | ((with_reducible refine Fr.set ?_ ?_ _); focus (simp; done)) | (with_reducible refine Fr.alloc ?_ _) | (with_reducible refine Fr.drew ?_) | (with_reducible refine Fr.step ?_ (by assumption))))⟩
    · exact at_old (at_new (by simp))
    · exact at_new (by simp)
  case round =>
    obtain ⟨k, hk, rfl, hU, ⟨v, css, hO, hor⟩, hf⟩ := hrel
    have Hor := Lib.hid hor; clear hor
    have HU := Lib.hid hU; clear hU
    have HO := Lib.hid hO; clear hO
    have hsz := hf.size
    have lO : w.heap.size + 2 < wr.heap.size := block_lt HO.out
    by_cases hlt : k < n
    · have hkl : k < m.length := by rw [← Hn.out]; exact hlt
      obtain ⟨cs, ⟨g1, cap1, rfl, hrow⟩, hcs⟩ := (Hv.out.fr LI hf).at hkl
      have c0 := hcs 0 _ rfl
      simp only [Nat.zero_add, Nat.add_zero, Nat.mul_one] at c0
      clear hcs
      obtain ⟨r0, r30, _⟩ := HR.out _ (List.getElem_mem hkl)
      have HRow := Lib.hid hrow; clear hrow
      generalize hmk : m[k] = r at *
      have Hmk := Lib.hid hmk; clear hmk
      obtain ⟨p, hp⟩ : ∃ p, p = r.length := ⟨_, rfl⟩
      rw [← hp] at r0 r30 c0
      have Hp := Lib.hid hp; clear hp
      have lR : R < wr.heap.size := by omega
      obtain ⟨w0, e0⟩ : ∃ w0, w0 = wr := ⟨_, rfl⟩
      subst e0
      go_wp2
      go_loopw [6, 25] (fun u i wi => ∃ q : Nat, q ≤ p ∧ i = .int .i64 q ∧ (∃ css, OR (ENum iN) wi w0.heap.size 30 4 u (r.take q) css) ∧ Fr w0 wi) (fun _ i _ => p - (intOf i).toNat)
      case atStart => exact ⟨0, Nat.zero_le _, rfl, ⟨_, by simpa using OR.nil _ _ _ _ _⟩, Fr.refl _⟩
      case round =>
        obtain ⟨q, hq, rfl, ⟨css1, hor1⟩, hfi⟩ := hrel
        have Hor1 := Lib.hid hor1; clear hor1
        have hszi := hfi.size
        by_cases hqp : q < p
        · have hqr : q < r.length := by rw [← Hp.out]; exact hqp
          obtain ⟨cs2, hE, hcs2⟩ := (HRow.out.fr (lie_num iN) hfi).at hqr
          have hE' : cs2 = iN r[q] := hE
          subst hE'
          have hg1 : g1 < wr.heap.size := (HRow.out.fr (lie_num iN) hfi).lt
          have d0 := hcs2 0 _ rfl
          have d1 := hcs2 1 _ rfl
          have d2 := hcs2 2 _ rfl
          have d3 := hcs2 3 _ rfl
          simp only [Nat.zero_add, Nat.add_zero] at d0 d1 d2 d3
          clear hcs2 hE
          generalize hrq : r[q] = x at *
          have Hrq := Lib.hid hrq; clear hrq
          have hcall := Lib.hid (fun W => out_any 1 (fw x) mt W)
          unfold iv at hcall
          go_wp2_with fail
          refine (hcall.out _).mono ?_
          rintro e w1 ⟨rfl, hf1⟩
          have hf2 : Fr w0 w1 := (hfi.alloc _).step hf1
          have hsz1 := hf1.size
          simp at hsz1
          have Hor2 := Lib.hid ((Hor1.out.alloc (lie_num iN) (.cells #[.int .i64 1, .float .f64 (fw x), .string mt, .slice none 0 0] 42)).fr (lie_num iN) hf1)
          clear d0 d1 d2 d3 hcall
          go_wp2_with (at_builtin; refine wpList_append_lies _ rfl _ _ 34 rfl w0.heap.size 30 i0 (iv 0 0 mt) 4 56 Tryz.underlying34 hi hz0 hz1 hz2 rfl (by decide) _ _ _ rfl ((Hor2.out.alloc (lie_num iN) _).take (Nat.le_of_lt hqr)) ⟨w1.heap.size, 0, none⟩ 1 1 (iN x) rfl rfl (news_new rfl rfl) (oneCells rfl) (by decide) (by simp only [maxLen]; omega) (by omega) (by simp; omega) _ rfl ?_)
          intro g5 cap5 w5 hown1 hgrow hat hlt5
          have hor5 := (Hor2.out.alloc (lie_num iN) (.cells #[.int .i64 1, .float .f64 (fw x), .string mt, .slice none 0 0] 30)).next (lie_num iN) (S := fun _ => False) (c := iN x) hqr (by rw [Hrq.out]; rfl) rfl (fun b h => h.elim) hown1 hgrow hat (by simp)
          have hf5 : Fr w0 w5 := (hf2.alloc _).grown hgrow (fun q h => (Hor1.out.lt _ h).1)
          have HOR5 := Lib.hid hor5
          clear hor5 hown1 hgrow hat
          go_wp2
          go_roundw
          case rel => exact ⟨q + 1, by omega, by simp, ⟨_, HOR5.out⟩, hf5⟩
          case measure => simp [intOf]; omega
        · have hqe : q = p := by omega
          subst hqe
          have hls : r.take q = r := by rw [Hp.out, List.take_length]
          have hor := Hor1.out
          rw [hls] at hor
          obtain ⟨g2, c2', hv2, hrow2⟩ := hor.done (lie_num iN) (by rw [← Hp.out]; exact r0)
          rw [← Hp.out] at hv2
          subst hv2
          have Hrow2 := Lib.hid hrow2
          clear hrow2 hor hls Hor1
          have Hor2 := Lib.hid (Hor.out.fr LI hfi)
          have hO2 := (hfi.block _ lO).trans HO.out
          obtain ⟨cO, zO⟩ := obj_rules2 hO2
          have lO2 : w.heap.size + 2 < wr.heap.size := by omega
          have HO2 := Lib.hid hO2; clear hO2
          have hro := Hor.out.lt
          go_wp2_with (at_builtin; refine wpList_append_lies _ rfl _ _ 28 rfl (w.heap.size + 3) 34 i1 (.slice none 0 0) 1 24 Tryz.underlying28 hj hy0 hy1 hy2 rfl (by decide) _ _ _ rfl ((Hor2.out.alloc LI _).take (Nat.le_of_lt hkl)) ⟨wr.heap.size, 0, none⟩ 1 1 [.slice (some ⟨g2, 0, none⟩) q c2'] rfl rfl (news_new rfl rfl) (oneCells rfl) (by decide) (by simp only [maxLen]; omega) (by omega) (by simp; omega) _ rfl ?_)
          intro g5 cap5 w5 hown1 hgrow hat hlt5
          have hO5 := (hgrow.block (w.heap.size + 2) (by simp; omega) (fun e => by have := (hro _ e.symm).1; omega)).trans (at_old HO2.out)
          obtain ⟨cO5, zO5⟩ := obj_rules2 hO5
          have q3 : w5.cell? ⟨w.heap.size + 1 + 1, 3, none⟩ = some v := cO5 3
          have z3 : w5.frozen? ⟨w.heap.size + 1 + 1, 3, none⟩ = false := zO5 3
          have hU5 := (hgrow.block (w.heap.size + 1) (by simp; omega) (fun e => by have := (hro _ e.symm).1; omega)).trans (at_old ((hfi.block _ (by omega)).trans HU.out))
          have hO6 := heap_setCell_same _ _ 3 _ _ (Value.slice (some ⟨g5, 0, none⟩) (k + 1) cap5) hO5
          have hU6 := far_set hU5 ⟨w.heap.size + 1 + 1, 3, none⟩ (.slice (some ⟨g5, 0, none⟩) (k + 1) cap5) (by show w.heap.size + 1 ≠ w.heap.size + 1 + 1; omega)
          have hor5 := ((Hor2.out.alloc LI (.cells #[.slice (some ⟨g2, 0, none⟩) q c2'] 34)).next LI (S := fun b => w0.heap.size ≤ b) (c := [.slice (some ⟨g2, 0, none⟩) q c2']) hkl
            (by rw [Hmk.out]; exact ⟨g2, c2', by rw [← Hp.out], Hrow2.out.fr (lie_num iN) ((Fr.refl _).alloc _)⟩) rfl (fun b (h : w0.heap.size ≤ b) => ⟨by omega, fun _ e => by have := (hro _ e.symm).2; omega⟩) hown1 hgrow hat (by simp)).low LI ⟨w.heap.size + 1 + 1, 3, none⟩ (.slice (some ⟨g5, 0, none⟩) (k + 1) cap5) (by simp)
          have hf5 : Fr w w5 := ((hf.step hfi).alloc _).grown hgrow (fun q h => by have := (hro _ h).1; omega)
          have HOR5 := Lib.hid hor5
          have HO6 := Lib.hid hO6
          have HU6 := Lib.hid hU6
          clear hor5 hown1 hgrow hat hO5 hO6 hU5 hU6 cO zO cO5 zO5
          go_wp2
          go_roundw
          case rel => exact ⟨k + 1, by omega, by simp, HU6.out, ⟨_, _, HO6.out, HOR5.out⟩, Fr.set (by show w.heap.size ≤ w.heap.size + 1 + 1; omega) hf5 _⟩
          case measure => simp [intOf]; omega
    · have hkn : k = n := by omega
      subst hkn
      have hls : m.take k = m := by rw [Hn.out, List.take_length]
      have hor := Hor.out
      rw [hls] at hor
      obtain ⟨g2, c, hv2, hrow⟩ := hor.done LI (by rw [← Hn.out]; exact h0)
      rw [← Hn.out] at hv2
      subst hv2
      obtain ⟨cO, zO⟩ := obj_rules2 HO.out
      obtain ⟨cU, zU⟩ := obj_rules2 HU.out
      have Hrow := Lib.hid hrow
      clear hrow hor hls Hor
      go_wp2
      exact bodyPost_ret (v := .agg #[.int .i64 5, .float .f64 0, .string mt, .slice (some ⟨g2, 0, none⟩) k c]) (by simp [results, Tryz.results13, go_sem, sv, mt, *]) rfl ⟨g2, c, rfl, by refine RowOf.mono LI (S := fun b => w.heap.size + 3 ≤ b) ?_ (fun b (h : w.heap.size + 3 ≤ b) => by omega); (iterate 4 refine RowOf.low LI ?_ _ _ (by simp)); exact Hrow.out, (by repeat (first | (with_reducible exact Fr.refl _) | ((with_reducible refine Fr.set ?_ ?_ _); focus (simp; done)) | (with_reducible refine Fr.alloc ?_ _) | (with_reducible refine Fr.drew ?_) | (with_reducible refine Fr.step ?_ (by assumption))))⟩
end Go.Proofs.YtlhonpmpchkkfaaGreatDoor
/- TRANSPOSE and MMULT, called through the thin package. -/
namespace Go.Proofs.YtlhonpmpchkkfaaGreatDoor
open Go.RowKit
open Fl
open Ieee (double)
theorem EF.rows {w : World} {S : Nat → Prop} {m : List (List Int)} {R n cap p q : Nat} (h : EF w S m (fmC R n cap p q)) : RowOf (ESl (ENum fN) 10) 1 w S R 0 m := by
  obtain ⟨R1, cap1, p1, q1, b1, e1, h, _⟩ := h
  simp [fmC] at e1
  obtain ⟨⟨rfl, _⟩, _⟩ := e1
  exact h
theorem LM.one {w : World} {B p : Nat} {bs : List Nat} {m : List (List Int)} {vs : List Value} (hL : LS w p bs vs) (h : LM w B p bs [m] vs) :
    ∃ b R cap p' q, bs = [b] ∧ vs = [.agg #[.string mt, .float .f64 0, .string mt, .slice none 0 0, .slice (some ⟨R, 0, none⟩) m.length cap, .bool false, .string mt, .int .u8 4, .pointer (some ⟨p', 0, none⟩), .pointer (some ⟨q, 0, none⟩)]] ∧ EF w (fun _ => True) m (fmC R m.length cap p' q) := by
  obtain ⟨R, cap, p', q, h1, h2⟩ := h.2 0 m rfl
  have hv : vs.length = 1 := h.1
  have hb : bs.length = 1 := hL.len.trans hv
  match bs, vs, hb, hv, h1 with
  | [b], [v], _, _, h1 =>
    simp at h1
    exact ⟨b, R, cap, p', q, rfl, by rw [h1], lie_ef.mono h2 fun _ _ => trivial⟩
theorem LM.two {w : World} {B p : Nat} {bs : List Nat} {m m' : List (List Int)} {vs : List Value} (hL : LS w p bs vs) (h : LM w B p bs [m, m'] vs) :
    ∃ b R cap p' q b' R' cap' p'' q', bs = [b, b'] ∧ vs = [.agg #[.string mt, .float .f64 0, .string mt, .slice none 0 0, .slice (some ⟨R, 0, none⟩) m.length cap, .bool false, .string mt, .int .u8 4, .pointer (some ⟨p', 0, none⟩), .pointer (some ⟨q, 0, none⟩)],
      .agg #[.string mt, .float .f64 0, .string mt, .slice none 0 0, .slice (some ⟨R', 0, none⟩) m'.length cap', .bool false, .string mt, .int .u8 4, .pointer (some ⟨p'', 0, none⟩), .pointer (some ⟨q', 0, none⟩)]] ∧
      RowOf (ESl (ENum fN) 10) 1 w (fun _ => True) R 0 m ∧ RowOf (ESl (ENum fN) 10) 1 w (fun _ => True) R' 0 m' := by
  obtain ⟨R, cap, p', q, h1, h2⟩ := h.2 0 m rfl
  obtain ⟨R', cap', p'', q', h3, h4⟩ := h.2 1 m' rfl
  have hv : vs.length = 2 := h.1
  have hb : bs.length = 2 := hL.len.trans hv
  match bs, vs, hb, hv, h1, h3 with
  | [b, b'], [v, v'], _, _, h1, h3 =>
    simp at h1 h3
    exact ⟨b, R, cap, p', q, b', R', cap', p'', q', rfl, by rw [h1, h3], h2.rows.mono (lie_sl (lie_num fN) 10) fun _ _ => trivial, h4.rows.mono (lie_sl (lie_num fN) 10) fun _ _ => trivial⟩
set_option maxRecDepth 100000 in
set_option maxHeartbeats 2000000 in
theorem DoorTRANSPOSE_col (S : Nat → Prop) (g cap : Nat) (xs : List Int) (w : World) (hv : RowOf EI 4 w S g 0 [one xs]) (h0 : 0 < xs.length) (h30 : xs.length ≤ 30) (hb : ∀ x ∈ xs, x.natAbs < 2 ^ 53) :
    Calls Tryz.prog 17 #[.slice (some ⟨g, 0, none⟩) 1 cap] w fun e w' => ∃ R cap', e = .returned (.agg #[.int .i64 5, .float .f64 0, .string mt, .slice (some ⟨R, 0, none⟩) 1 cap']) ∧ RowOf (ESl (ENum iN) 4) 1 w' (fun b => w.heap.size ≤ b) R 0 [xs] ∧ Fr w w' := by
  have Hv := Lib.hid hv; clear hv
  have HI := Lib.hid (fun W h => innerList_mats S g cap [one xs] W h (by simp) (by simp) (fun m hm => by simp at hm; subst hm; exact fit_one h0 h30 hb))
  rw [show ([one xs] : List (List (List Int))).length = 1 from rfl] at HI
  have HT := Lib.hid (fun f R cap p' q W p b hL hE => TRANSPOSEm f R cap p' q xs W p b (fun _ => True) hL hE h0 h30 hb)
  have HD := Lib.hid (fun R cap W S h => doorArg_mat R cap none none [xs] W S h (fit_row h0 h30 hb))
  rw [show ([xs] : List (List Int)).length = 1 from rfl] at HD
  clear h0 h30 hb
  have LI := lie_sl (lie_num iN) 4
  go_enter Tryz.func17, Tryz.ntmps17
  go_wp2_with fail
  refine (doorFuncs_any _).mono ?_
  rintro e w1 ⟨f, rfl, hf1⟩
  have hsz1 := hf1.size
  (try simp at hsz1)
  obtain ⟨hc1, hz1⟩ := hf1.cells
  (try simp at hc1); (try simp at hz1)
  have l1 : w.heap.size < w1.heap.size := by omega
  go_wp2_with fail
  refine (HI.out _ (Hv.out.fr lie_ei (by repeat (first | (with_reducible exact Fr.refl _) | ((with_reducible refine Fr.set ?_ ?_ _); focus (simp; done)) | (with_reducible refine Fr.alloc ?_ _) | (with_reducible refine Fr.drew ?_) | (with_reducible refine Fr.step ?_ (by assumption)))))).mono ?_
  rintro e w2 ⟨p, bs, vs, rfl, hL, hM, hf2⟩
  obtain ⟨b, R, capR, p', q, rfl, rfl, hE⟩ := hM.one hL
  have HL := Lib.hid hL; clear hL hM
  have HE := Lib.hid hE; clear hE
  have hsz2 := hf2.size
  obtain ⟨hc2, hz2⟩ := hf2.cells
  have l2 : w.heap.size < w2.heap.size := by omega
  go_wp2_with fail
  refine (HT.out _ R capR p' q _ p b HL.out HE.out).mono ?_
  rintro e w3 ⟨gm, rfl, hr3, hf3⟩
  have HR3 := Lib.hid hr3; clear hr3
  have hsz3 := hf3.size
  obtain ⟨hc3, hz3⟩ := hf3.cells
  have l3 : w.heap.size < w3.heap.size := by omega
  go_wp2_with fail
  refine (HD.out gm 1 _ _ HR3.out).mono ?_
  rintro e w4 ⟨R4, cap4, rfl, hr4, hf4⟩
  have HR4 := Lib.hid hr4; clear hr4
  have hsz4 := hf4.size
  obtain ⟨hc4, hz4⟩ := hf4.cells
  have l4 : w.heap.size < w4.heap.size := by omega
  go_wp2
  exact bodyPost_ret (v := .agg #[.int .i64 5, .float .f64 0, .string mt, .slice (some ⟨R4, 0, none⟩) 1 cap4]) (by simp [results, Tryz.results17, go_sem, sv, mt, *]) rfl ⟨R4, cap4, rfl, by
    refine RowOf.mono LI (S := fun b => w.heap.size + 1 ≤ b) ?_ (fun b (h : w.heap.size + 1 ≤ b) => by omega)
    (iterate 4 refine RowOf.low LI ?_ _ _ (by simp))
    exact HR4.out.mono LI (fun b (h : w3.heap.size ≤ b) => by omega), (by repeat (first | (with_reducible exact Fr.refl _) | ((with_reducible refine Fr.set ?_ ?_ _); focus (simp; done)) | (with_reducible refine Fr.alloc ?_ _) | (with_reducible refine Fr.drew ?_) | (with_reducible refine Fr.step ?_ (by assumption))))⟩
end Go.Proofs.YtlhonpmpchkkfaaGreatDoor
/- TRANSPOSE and MMULT of the thin package. -/
namespace Go.Proofs.YtlhonpmpchkkfaaGreatDoor
open Go.RowKit
open Fl
open Ieee (double)
set_option maxRecDepth 100000 in
set_option maxHeartbeats 2000000 in
theorem implTRANSPOSE_col (S : Nat → Prop) (g cap : Nat) (xs : List Int) (w : World) (hv : RowOf EI 4 w S g 0 [one xs]) (h0 : 0 < xs.length) (h30 : xs.length ≤ 30) (hb : ∀ x ∈ xs, x.natAbs < 2 ^ 53) :
    Calls Tryz.prog 7 #[.slice (some ⟨g, 0, none⟩) 1 cap] w fun e w' => ∃ R cap', e = .returned (.agg #[.int .i64 5, .float .f64 0, .string mt, .slice (some ⟨R, 0, none⟩) 1 cap']) ∧ RowOf (ESl (ENum iN) 4) 1 w' (fun b => w.heap.size ≤ b) R 0 [xs] ∧ Fr w w' := by
  have Hv := Lib.hid hv; clear hv
  have HI := Lib.hid (fun W h => in_mat S g cap [one xs] W h (by simp) (by simp) (fun m hm => by simp at hm; subst hm; exact fit_one h0 h30 hb))
  rw [show ([one xs] : List (List (List Int))).length = 1 from rfl] at HI
  have HT := Lib.hid (fun g cap W S h => DoorTRANSPOSE_col S g cap xs W h h0 h30 hb)
  have HD := Lib.hid (fun R cap W S h => out_mat R cap [xs] W S h (fit_row h0 h30 hb))
  rw [show ([xs] : List (List Int)).length = 1 from rfl] at HD
  clear h0 h30 hb
  have LI := lie_sl (lie_num iN) 4
  go_enter Tryz.func7, Tryz.ntmps7
  go_wp2_with fail
  refine (HI.out _ (Hv.out.fr lie_ei (by repeat (first | (with_reducible exact Fr.refl _) | ((with_reducible refine Fr.set ?_ ?_ _); focus (simp; done)) | (with_reducible refine Fr.alloc ?_ _) | (with_reducible refine Fr.drew ?_) | (with_reducible refine Fr.step ?_ (by assumption)))))).mono ?_
  rintro e w1 ⟨g1, c1, rfl, hr1, hf1⟩
  have HR1 := Lib.hid hr1; clear hr1
  have hsz1 := hf1.size
  (try simp at hsz1)
  obtain ⟨hc1, hz1⟩ := hf1.cells
  (try simp at hc1); (try simp at hz1)
  have l1 : w.heap.size < w1.heap.size := by omega
  go_wp2_with fail
  refine (HT.out g1 c1 _ _ HR1.out).mono ?_
  rintro e w2 ⟨R2, c2, rfl, hr2, hf2⟩
  have HR2 := Lib.hid hr2; clear hr2
  have hsz2 := hf2.size
  obtain ⟨hc2, hz2⟩ := hf2.cells
  have l2 : w.heap.size < w2.heap.size := by omega
  go_wp2_with fail
  refine (HD.out R2 c2 _ _ HR2.out).mono ?_
  rintro e w4 ⟨R4, cap4, rfl, hr4, hf4⟩
  have HR4 := Lib.hid hr4; clear hr4
  have hsz4 := hf4.size
  obtain ⟨hc4, hz4⟩ := hf4.cells
  have l4 : w.heap.size < w4.heap.size := by omega
  go_wp2
  exact bodyPost_ret (v := .agg #[.int .i64 5, .float .f64 0, .string mt, .slice (some ⟨R4, 0, none⟩) 1 cap4]) (by simp [results, Tryz.results7, go_sem, sv, mt, *]) rfl ⟨R4, cap4, rfl, by
    refine RowOf.mono LI (S := fun b => w.heap.size + 1 ≤ b) ?_ (fun b (h : w.heap.size + 1 ≤ b) => by omega)
    (iterate 4 refine RowOf.low LI ?_ _ _ (by simp))
    exact HR4.out.mono LI (fun b (h : w2.heap.size ≤ b) => by omega), (by repeat (first | (with_reducible exact Fr.refl _) | ((with_reducible refine Fr.set ?_ ?_ _); focus (simp; done)) | (with_reducible refine Fr.alloc ?_ _) | (with_reducible refine Fr.drew ?_) | (with_reducible refine Fr.step ?_ (by assumption))))⟩
theorem fit_num {s : Int} (h : s.natAbs < 2 ^ 53) : Fit [[s]] := fit_row (by simp) (by simp) (fun x hx => by simp at hx; subst hx; exact h)
set_option maxRecDepth 100000 in
set_option maxHeartbeats 2000000 in
theorem DoorMMULT_dot (S : Nat → Prop) (g cap : Nat) (xs ys : List Int) (w : World) (hv : RowOf EI 4 w S g 0 [[xs], one ys]) (h0 : 0 < xs.length) (h30 : xs.length ≤ 30) (hxy : ys.length = xs.length) (hx : ∀ x ∈ xs, x.natAbs ≤ 99) (hy : ∀ y ∈ ys, y.natAbs ≤ 99) :
    Calls Tryz.prog 14 #[.slice (some ⟨g, 0, none⟩) 2 cap] w fun e w' => ∃ R cap', e = .returned (.agg #[.int .i64 5, .float .f64 0, .string mt, .slice (some ⟨R, 0, none⟩) 1 cap']) ∧ RowOf (ESl (ENum iN) 4) 1 w' (fun b => w.heap.size ≤ b) R 0 [[dotN xs ys xs.length]] ∧ Fr w w' := by
  have Hv := Lib.hid hv; clear hv
  have hb53 : ∀ {l : List Int}, (∀ x ∈ l, x.natAbs ≤ 99) → ∀ x ∈ l, x.natAbs < 2 ^ 53 := fun h x hx => by have := h x hx; omega
  have HI := Lib.hid (fun W h => innerList_mats S g cap [[xs], one ys] W h (by simp) (by simp) (fun m hm => by simp at hm; rcases hm with rfl | rfl; exact fit_row h0 h30 (hb53 hx); exact fit_one (by omega) (by omega) (hb53 hy)))
  rw [show ([[xs], one ys] : List (List (List Int))).length = 2 from rfl] at HI
  have HT := Lib.hid (fun f R1 cap1 p1 q1 R2 cap2 p2 q2 W p b1 b2 hL hr1 hr2 => MMULTm f R1 cap1 p1 q1 R2 cap2 p2 q2 xs ys W p b1 b2 (fun _ => True) (fun _ => True) hL hr1 hr2 h0 h30 hxy hx hy)
  have hd : (dotN xs ys xs.length).natAbs < 2 ^ 53 := by have := dotN_bound hx hy xs.length; omega
  have HD := Lib.hid (fun R cap W S h => doorArg_mat R cap none none [[dotN xs ys xs.length]] W S h (fit_num hd))
  rw [show ([[dotN xs ys xs.length]] : List (List Int)).length = 1 from rfl] at HD
  have Hol := Lib.hid (one_len ys)
  clear h0 h30 hx hy hb53 hd hxy
  generalize dotN xs ys xs.length = s at *
  have LI := lie_sl (lie_num iN) 4
  go_enter Tryz.func14, Tryz.ntmps14
  go_wp2_with fail
  refine (doorFuncs_any _).mono ?_
  rintro e w1 ⟨f, rfl, hf1⟩
  have hsz1 := hf1.size
  (try simp at hsz1)
  obtain ⟨hc1, hz1⟩ := hf1.cells
  (try simp at hc1); (try simp at hz1)
  have l1 : w.heap.size < w1.heap.size := by omega
  go_wp2_with fail
  refine (HI.out _ (Hv.out.fr lie_ei (by repeat (first | (with_reducible exact Fr.refl _) | ((with_reducible refine Fr.set ?_ ?_ _); focus (simp; done)) | (with_reducible refine Fr.alloc ?_ _) | (with_reducible refine Fr.drew ?_) | (with_reducible refine Fr.step ?_ (by assumption)))))).mono ?_
  rintro e w2 ⟨p, bs, vs, rfl, hL, hM, hf2⟩
  obtain ⟨b, R1, cap1, p1, q1, b', R2, cap2, p2, q2, rfl, rfl, hE1, hE2⟩ := hM.two hL
  rw [Hol.out] at hL
  have HL := Lib.hid hL; clear hL hM
  have HE1 := Lib.hid hE1; clear hE1
  have HE2 := Lib.hid hE2; clear hE2
  have hsz2 := hf2.size
  obtain ⟨hc2, hz2⟩ := hf2.cells
  have l2 : w.heap.size < w2.heap.size := by omega
  go_wp2_with fail
  refine (HT.out _ R1 cap1 p1 q1 R2 cap2 p2 q2 _ p b b' HL.out HE1.out HE2.out).mono ?_
  rintro e w3 ⟨gm, cm, rfl, hr3, hf3⟩
  have HR3 := Lib.hid hr3; clear hr3
  have hsz3 := hf3.size
  obtain ⟨hc3, hz3⟩ := hf3.cells
  have l3 : w.heap.size < w3.heap.size := by omega
  go_wp2_with fail
  refine (HD.out gm cm _ _ HR3.out).mono ?_
  rintro e w4 ⟨R4, cap4, rfl, hr4, hf4⟩
  have HR4 := Lib.hid hr4; clear hr4
  have hsz4 := hf4.size
  obtain ⟨hc4, hz4⟩ := hf4.cells
  have l4 : w.heap.size < w4.heap.size := by omega
  go_wp2
  exact bodyPost_ret (v := .agg #[.int .i64 5, .float .f64 0, .string mt, .slice (some ⟨R4, 0, none⟩) 1 cap4]) (by simp [results, Tryz.results14, go_sem, sv, mt, *]) rfl ⟨R4, cap4, rfl, by
    refine RowOf.mono LI (S := fun b => w.heap.size + 1 ≤ b) ?_ (fun b (h : w.heap.size + 1 ≤ b) => by omega)
    (iterate 4 refine RowOf.low LI ?_ _ _ (by simp))
    exact HR4.out.mono LI (fun b (h : w3.heap.size ≤ b) => by omega), (by repeat (first | (with_reducible exact Fr.refl _) | ((with_reducible refine Fr.set ?_ ?_ _); focus (simp; done)) | (with_reducible refine Fr.alloc ?_ _) | (with_reducible refine Fr.drew ?_) | (with_reducible refine Fr.step ?_ (by assumption))))⟩
set_option maxRecDepth 100000 in
set_option maxHeartbeats 2000000 in
theorem implMMULT_dot (S : Nat → Prop) (g cap : Nat) (xs ys : List Int) (w : World) (hv : RowOf EI 4 w S g 0 [[xs], one ys]) (h0 : 0 < xs.length) (h30 : xs.length ≤ 30) (hxy : ys.length = xs.length) (hx : ∀ x ∈ xs, x.natAbs ≤ 99) (hy : ∀ y ∈ ys, y.natAbs ≤ 99) :
    Calls Tryz.prog 5 #[.slice (some ⟨g, 0, none⟩) 2 cap] w fun e w' => ∃ R cap', e = .returned (.agg #[.int .i64 5, .float .f64 0, .string mt, .slice (some ⟨R, 0, none⟩) 1 cap']) ∧ RowOf (ESl (ENum iN) 4) 1 w' (fun b => w.heap.size ≤ b) R 0 [[dotN xs ys xs.length]] ∧ Fr w w' := by
  have Hv := Lib.hid hv; clear hv
  have hb53 : ∀ {l : List Int}, (∀ x ∈ l, x.natAbs ≤ 99) → ∀ x ∈ l, x.natAbs < 2 ^ 53 := fun h x hx => by have := h x hx; omega
  have HI := Lib.hid (fun W h => in_mat S g cap [[xs], one ys] W h (by simp) (by simp) (fun m hm => by simp at hm; rcases hm with rfl | rfl; exact fit_row h0 h30 (hb53 hx); exact fit_one (by omega) (by omega) (hb53 hy)))
  rw [show ([[xs], one ys] : List (List (List Int))).length = 2 from rfl] at HI
  have HT := Lib.hid (fun g cap W S h => DoorMMULT_dot S g cap xs ys W h h0 h30 hxy hx hy)
  have hd : (dotN xs ys xs.length).natAbs < 2 ^ 53 := by have := dotN_bound hx hy xs.length; omega
  have HD := Lib.hid (fun R cap W S h => out_mat R cap [[dotN xs ys xs.length]] W S h (fit_num hd))
  rw [show ([[dotN xs ys xs.length]] : List (List Int)).length = 1 from rfl] at HD
  clear h0 h30 hx hy hb53 hd hxy
  generalize dotN xs ys xs.length = s at *
  have LI := lie_sl (lie_num iN) 4
  go_enter Tryz.func5, Tryz.ntmps5
  go_wp2_with fail
  refine (HI.out _ (Hv.out.fr lie_ei (by repeat (first | (with_reducible exact Fr.refl _) | ((with_reducible refine Fr.set ?_ ?_ _); focus (simp; done)) | (with_reducible refine Fr.alloc ?_ _) | (with_reducible refine Fr.drew ?_) | (with_reducible refine Fr.step ?_ (by assumption)))))).mono ?_
  rintro e w1 ⟨g1, c1, rfl, hr1, hf1⟩
  have HR1 := Lib.hid hr1; clear hr1
  have hsz1 := hf1.size
  (try simp at hsz1)
  obtain ⟨hc1, hz1⟩ := hf1.cells
  (try simp at hc1); (try simp at hz1)
  have l1 : w.heap.size < w1.heap.size := by omega
  go_wp2_with fail
  refine (HT.out g1 c1 _ _ HR1.out).mono ?_
  rintro e w2 ⟨R2, c2, rfl, hr2, hf2⟩
  have HR2 := Lib.hid hr2; clear hr2
  have hsz2 := hf2.size
  obtain ⟨hc2, hz2⟩ := hf2.cells
  have l2 : w.heap.size < w2.heap.size := by omega
  go_wp2_with fail
  refine (HD.out R2 c2 _ _ HR2.out).mono ?_
  rintro e w4 ⟨R4, cap4, rfl, hr4, hf4⟩
  have HR4 := Lib.hid hr4; clear hr4
  have hsz4 := hf4.size
  obtain ⟨hc4, hz4⟩ := hf4.cells
  have l4 : w.heap.size < w4.heap.size := by omega
  go_wp2
  exact bodyPost_ret (v := .agg #[.int .i64 5, .float .f64 0, .string mt, .slice (some ⟨R4, 0, none⟩) 1 cap4]) (by simp [results, Tryz.results5, go_sem, sv, mt, *]) rfl ⟨R4, cap4, rfl, by
    refine RowOf.mono LI (S := fun b => w.heap.size + 1 ≤ b) ?_ (fun b (h : w.heap.size + 1 ≤ b) => by omega)
    (iterate 4 refine RowOf.low LI ?_ _ _ (by simp))
    exact HR4.out.mono LI (fun b (h : w2.heap.size ≤ b) => by omega), (by repeat (first | (with_reducible exact Fr.refl _) | ((with_reducible refine Fr.set ?_ ?_ _); focus (simp; done)) | (with_reducible refine Fr.alloc ?_ _) | (with_reducible refine Fr.drew ?_) | (with_reducible refine Fr.step ?_ (by assumption))))⟩
end Go.Proofs.YtlhonpmpchkkfaaGreatDoor
/- The rows of SUMPRODUCT: whole numbers behind floats. -/
namespace Go.Proofs.YtlhonpmpchkkfaaGreatDoor
open Go.RowKit
open Fl
open Ieee (double)
set_option maxRecDepth 100000 in
set_option maxHeartbeats 1000000 in
theorem ToNumber_num (x : Int) (w : World) (hx : x.natAbs < 2 ^ 53) :
    Calls Tryz.prog 54 #[fa 1 (fw x) mt mt] w fun e w' => e = .returned (fa 1 (fw x) mt mt) ∧ Fr w w' := by
  have HN := Lib.hid (fun W => newNumber_int x W hx); clear hx
  unfold fa at *
  go_enter Tryz.func54, Tryz.ntmps54
  go_wp2_with fail
  refine (HN.out _).mono ?_
  rintro e w1 ⟨rfl, hf1⟩
  have hsz1 := hf1.size
  simp at hsz1
  obtain ⟨hc1, hz1⟩ := hf1.cells
  simp at hc1 hz1
  have l1 : w.heap.size < w1.heap.size := by omega
  have l2 : w.heap.size + 1 < w1.heap.size := by omega
  go_wp2
  exact bodyPost_ret (v := .agg #[.string mt, .float .f64 (fw x), .string mt, .slice none 0 0, .slice none 0 0, .bool false, .string mt, .int .u8 1, .pointer none, .pointer none]) (by simp [results, Tryz.results54, go_sem, sv, mt, *]) rfl ⟨rfl, (by repeat (first | (with_reducible exact Fr.refl _) | ((with_reducible refine Fr.set ?_ ?_ _); focus (simp; done)) | (with_reducible refine Fr.alloc ?_ _) | (with_reducible refine Fr.drew ?_) | (with_reducible refine Fr.step ?_ (by assumption))))⟩
/-- A row of floats in the block gr, each a word of what f says; all that was there else is as it was. -/
def PR (f : Nat → Int) (n gr : Nat) (w0 W : World) : Prop :=
  (∀ b, b < w0.heap.size → b ≠ gr → W.heap[b]? = w0.heap[b]?) ∧ w0.heap.size ≤ W.heap.size ∧
  ∃ c : Array Value, W.heap[gr]? = some (.cells c 27 (0, 0)) ∧ c.size = n ∧ ∀ i, i < n → ∃ z, c[i]? = some (.float .f64 z) ∧ FI z (f i)
theorem PR.congr {f f' : Nat → Int} {n gr : Nat} {w0 W : World} (h : PR f n gr w0 W) (he : ∀ i, i < n → f i = f' i) : PR f' n gr w0 W := by
  obtain ⟨h1, h2, c, h3, h4, h5⟩ := h
  refine ⟨h1, h2, c, h3, h4, fun i hi => ?_⟩
  obtain ⟨z, h6, h7⟩ := h5 i hi
  exact ⟨z, h6, by rw [← he i hi]; exact h7⟩
theorem PR.next {f : Nat → Int} {n gr : Nat} {w0 W W' : World} {q : Nat} {z : Nat} {s : Int} (hq : q < n) (h : PR f n gr w0 W) (h1 : ∀ b, b < w0.heap.size → b ≠ gr → W'.heap[b]? = W.heap[b]?) (h2 : w0.heap.size ≤ W'.heap.size)
    (h3 : ∀ c : Array Value, W.heap[gr]? = some (.cells c 27 (0, 0)) → W'.heap[gr]? = some (.cells (c.setIfInBounds q (.float .f64 z)) 27 (0, 0))) (hz : FI z s) :
    PR (fun i => if i = q then s else f i) n gr w0 W' := by
  obtain ⟨k1, k2, c, k3, k4, k5⟩ := h
  refine ⟨fun b hb hne => (h1 b hb hne).trans (k1 b hb hne), h2, _, h3 c k3, by simpa using k4, fun i hi => ?_⟩
  by_cases hiq : i = q
  · subst hiq
    exact ⟨z, set_eq (by omega), by simpa using hz⟩
  · obtain ⟨y, h6, h7⟩ := k5 i hi
    exact ⟨y, by rw [set_ne (fun e => hiq e.symm)]; exact h6, by simpa [hiq] using h7⟩
end Go.Proofs.YtlhonpmpchkkfaaGreatDoor
