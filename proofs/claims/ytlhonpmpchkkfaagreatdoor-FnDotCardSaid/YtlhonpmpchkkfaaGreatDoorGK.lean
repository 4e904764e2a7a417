import Derived.Test.YtlhonpmpchkkfaaGreatDoorD3
set_option linter.unusedSimpArgs false
set_option linter.unusedVariables false
/- The program's values as the package's: numbers, rows of numbers, matrices. -/
namespace Go.Proofs.YtlhonpmpchkkfaaGreatDoor
open Go.RowKit
open Fl
open Ieee (double)
theorem ofC_mat (m : List (List Int)) (hm : Fit m) : OfC EM EI m := by
  rintro w S c ⟨c', rfl, R, cap, rfl, hr⟩
  refine ⟨5, 0, 0, mt, some ⟨R, 0, none⟩, m.length, cap, rfl, (of_mat R cap m w S hr hm).mono fun e w' h => ?_⟩
  obtain ⟨g, cap', rfl, hr', hf⟩ := h
  exact ⟨5, 0, mt, some ⟨g, 0, none⟩, m.length, cap', rfl, ⟨_, rfl, g, cap', rfl, hr'⟩, hf⟩
set_option maxRecDepth 100000 in
set_option maxHeartbeats 2000000 in
theorem in_num (S : Nat → Prop) (g cap : Nat) (xs : List Int) (w : World) (hv : RowOf (ENum iN) 4 w S g 0 xs) (h0 : 0 < xs.length) (h30 : xs.length ≤ 30) :
    Calls Tryz.prog 15 #[.slice (some ⟨g, 0, none⟩) xs.length cap] w fun e w' => ∃ g' cap', e = .returned (.slice (some ⟨g', 0, none⟩) xs.length cap') ∧ RowOf (ENum iN) 4 w' (fun b => w.heap.size ≤ b) g' 0 xs ∧ Fr w w' := by
  have Hv := Lib.hid hv; clear hv
  have L := lie_num iN
  obtain ⟨i0, hi, hz0, hz1, hz2⟩ := info_parts Tryz.infoArg
  obtain ⟨n, hn⟩ : ∃ n, n = xs.length := ⟨_, rfl⟩
  have Hn := Lib.hid hn
  rw [← hn] at h0 h30 ⊢
  clear hn
  go_enter Tryz.func15, Tryz.ntmps15
  go_wp2
  go_loopw [3, 11] (fun v i wr => ∃ k : Nat, k ≤ n ∧ i = .int .i64 k ∧ (∃ css, OR (ENum iN) wr w.heap.size 42 4 v (xs.take k) css) ∧ Fr w wr) (fun _ i _ => n - (intOf i).toNat)
  case atStart => exact ⟨0, Nat.zero_le _, rfl, ⟨_, by simpa using OR.nil _ _ _ _ _⟩, Fr.refl _⟩
  case round =>
    obtain ⟨k, hk, rfl, ⟨css, hor⟩, hf⟩ := hrel
    have Hor := Lib.hid hor; clear hor
    have hsz := hf.size
    by_cases hlt : k < n
    · have hkl : k < xs.length := by rw [← Hn.out]; exact hlt
      obtain ⟨cs, hE, hcs⟩ := (Hv.out.fr L hf).at hkl
      have hE' : cs = iN xs[k] := hE
      subst hE'
      have hg : g < wr.heap.size := (Hv.out.fr L hf).lt
      have c0 := hcs 0 _ rfl
      have c1 := hcs 1 _ rfl
      have c2 := hcs 2 _ rfl
      have c3 := hcs 3 _ rfl
      simp only [Nat.zero_add, Nat.add_zero] at c0 c1 c2 c3
      clear hcs hE
      have Hx := Lib.hid (show ENum iN wr (fun _ => False) xs[k] (iN xs[k]) from rfl)
      generalize hxk : xs[k] = x at *
      have Hxk := Lib.hid hxk; clear hxk
      go_wp2
      go_loop [25] (fun i => i = .int .i64 0) (fun i => 0)
      case atStart => rfl
      case round =>
        subst hrel
        go_wp2_with (at_builtin; refine wpList_append_lies _ rfl _ _ 44 rfl w.heap.size 42 i0 (iv 0 0 mt) 4 56 Tryz.underlying44 hi hz0 hz1 hz2 rfl (by decide) _ _ _ rfl ((((Hor.out.alloc L _).alloc L _).alloc L _).take (Nat.le_of_lt hkl)) ⟨wr.heap.size + 1 + 1, 0, none⟩ 1 1 (iN x) rfl rfl (news_new rfl (by simp)) (oneCells rfl) (by decide) (by simp only [maxLen]; omega) (by omega) (by simp; omega) _ rfl ?_)
        intro g2 cap2 w2 hown1 hgrow hat hlt2
        have hor3 := (((Hor.out.alloc L (.cells #[.int .i64 1, .float .f64 (fw x), .string mt, .slice none 0 0] 30)).alloc L (.cells #[.int .i64 1, .float .f64 (fw x), .string mt, .slice none 0 0] 42)).alloc L (.cells #[.int .i64 1, .float .f64 (fw x), .string mt, .slice none 0 0] 42)).next L (S := fun _ => False) (c := iN x) hkl (by rw [Hxk.out]; rfl) rfl (fun b h => h.elim) hown1 hgrow hat (by simp)
        have hf3 : Fr w w2 := (((hf.alloc _).alloc _).alloc _).grown hgrow (fun q h => (Hor.out.lt _ h).1)
        clear hown1 hgrow hat c0 c1 c2 c3
        have Hor3 := Lib.hid hor3; clear hor3
        go_wp2
        go_roundw
        case rel => exact ⟨k + 1, by omega, by simp, ⟨_, Hor3.out⟩, hf3⟩
        case measure => simp [intOf]; omega
    · have hkn : k = n := by omega
      subst hkn
      have hls : xs.take k = xs := by rw [Hn.out, List.take_length]
      have hor := Hor.out
      rw [hls] at hor
      obtain ⟨g2, c, hv2, hrow⟩ := hor.done L (by rw [← Hn.out]; exact h0)
      rw [← Hn.out] at hv2
      subst hv2
      have Hrow := Lib.hid hrow
      clear hrow hor hls Hor
      go_wp2
      go_ret
      exact ⟨g2, c, rfl, Hrow.out, hf⟩
end Go.Proofs.YtlhonpmpchkkfaaGreatDoor
/- Matrices of the program as the package's. -/
namespace Go.Proofs.YtlhonpmpchkkfaaGreatDoor
open Go.RowKit
open Fl
open Ieee (double)
theorem Tryz.infoArgs : (Tryz.prog.info? 44).map (fun i => (i.zero, i.size, i.bytes)) = some (some (.slice none 0 0), 1, 24) := by kernel_rfl
set_option maxRecDepth 100000 in
set_option maxHeartbeats 4000000 in
theorem in_mat (S : Nat → Prop) (g cap : Nat) (ms : List (List (List Int))) (w : World) (hv : RowOf EI 4 w S g 0 ms) (h0 : 0 < ms.length) (h30 : ms.length ≤ 30) (hfit : ∀ m ∈ ms, Fit m) :
    Calls Tryz.prog 15 #[.slice (some ⟨g, 0, none⟩) ms.length cap] w fun e w' => ∃ g' cap', e = .returned (.slice (some ⟨g', 0, none⟩) ms.length cap') ∧ RowOf EI 4 w' (fun b => w.heap.size ≤ b) g' 0 ms ∧ Fr w w' := by
  have Hv := Lib.hid hv; clear hv
  have HF := Lib.hid hfit; clear hfit
  have L := lie_ei
  have LI := lie_sl (lie_num iN) 4
  obtain ⟨i0, hi, hz0, hz1, hz2⟩ := info_parts Tryz.infoArg
  obtain ⟨i1, hj, hy0, hy1, hy2⟩ := info_parts Tryz.infoArgs
  obtain ⟨n, hn⟩ : ∃ n, n = ms.length := ⟨_, rfl⟩
  have Hn := Lib.hid hn
  rw [← hn] at h0 h30 ⊢
  clear hn
  go_enter Tryz.func15, Tryz.ntmps15
  go_wp2
  go_loopw [3, 11] (fun v i wr => ∃ k : Nat, k ≤ n ∧ i = .int .i64 k ∧ (∃ css, OR EI wr w.heap.size 42 4 v (ms.take k) css) ∧ Fr w wr) (fun _ i _ => n - (intOf i).toNat)
  case atStart => exact ⟨0, Nat.zero_le _, rfl, ⟨_, by simpa using OR.nil _ _ _ _ _⟩, Fr.refl _⟩
  case round =>
    obtain ⟨k, hk, rfl, ⟨css, hor⟩, hf⟩ := hrel
    have Hor := Lib.hid hor; clear hor
    have hsz := hf.size
    by_cases hlt : k < n
    · have hkl : k < ms.length := by rw [← Hn.out]; exact hlt
      obtain ⟨cs, ⟨c', rfl, R, capR, rfl, hrow⟩, hcs⟩ := (Hv.out.fr L hf).at hkl
      have hg : g < wr.heap.size := (Hv.out.fr L hf).lt
      have c0 := hcs 0 _ rfl
      have c1 := hcs 1 _ rfl
      have c2 := hcs 2 _ rfl
      have c3 := hcs 3 _ rfl
      simp only [Nat.zero_add, Nat.add_zero] at c0 c1 c2 c3
      clear hcs
      obtain ⟨m0, m30, hr⟩ := HF.out _ (List.getElem_mem hkl)
      have HR := Lib.hid hr; clear hr
      have hRlt := hrow.lt
      have HRow := Lib.hid hrow; clear hrow
      generalize hmk : ms[k] = m at *
      have Hmk := Lib.hid hmk; clear hmk
      obtain ⟨p, hp⟩ : ∃ p, p = m.length := ⟨_, rfl⟩
      rw [← hp] at m0 m30 c3
      have Hp := Lib.hid hp; clear hp
      obtain ⟨w0, e0⟩ : ∃ w0, w0 = wr := ⟨_, rfl⟩
      subst e0
      go_wp2
      go_loopw [25] (fun i wi => ∃ q : Nat, q ≤ p ∧ i = .int .i64 q ∧ (∃ u css, wi.heap[w0.heap.size + 1]? = some (.cells #[.int .i64 5, .float .f64 0, .string mt, u] 42 (0, 0)) ∧ OR (ESl (ENum iN) 4) wi (w0.heap.size + 2) 44 1 u (m.take q) css) ∧ Fr w0 wi) (fun i _ => p - (intOf i).toNat)
      case atStart =>
        refine ⟨0, Nat.zero_le _, rfl, ⟨_, _, at_new (by simp), by simpa using OR.nil _ _ _ _ _⟩, (by repeat (first | (with_reducible exact Fr.refl _) | ((with_reducible refine Fr.set ?_ ?_ _); focus (simp; done)) | (with_reducible refine Fr.alloc ?_ _) | (with_reducible refine Fr.drew ?_) | (with_reducible refine Fr.step ?_ (by assumption))))⟩
      case round =>
        obtain ⟨q, hq, rfl, ⟨u, css1, hO, hor1⟩, hfi⟩ := hrel
        have Hor1 := Lib.hid hor1; clear hor1
        obtain ⟨cO, zO⟩ := obj_rules2 hO
        have HO := Lib.hid hO; clear hO
        have lO : w0.heap.size + 1 < wr.heap.size := block_lt HO.out
        have hszi := hfi.size
        by_cases hqp : q < p
        · have hqm : q < m.length := by rw [← Hp.out]; exact hqp
          obtain ⟨cs2, ⟨g1, cap1, rfl, hrow1⟩, hcs2⟩ := (HRow.out.fr LI hfi).at hqm
          have d0 := hcs2 0 _ rfl
          simp only [Nat.zero_add, Nat.add_zero, Nat.mul_one] at d0
          clear hcs2
          have hrl := HR.out _ (List.getElem_mem hqm)
          have HRow1 := Lib.hid hrow1; clear hrow1
          generalize hrr : m[q] = r at *
          have Hrr := Lib.hid hrr; clear hrr
          have lR : R < wr.heap.size := by omega
          have c3' := cO 3
          simp at c3'
          go_wp2_with fail
          go_region_law
            (first
              | (go_simp
                 refine (in_num S g1 cap1 r _ (HRow1.out.fr (lie_num iN) ((Fr.refl _).drew)) hrl.1 hrl.2.1).mono ?_
                 rintro e wa ⟨ga, ca, rfl, hra, hfa⟩
                 have hca := hfa.cells.1
                 have hsa := hfa.size
                 (try simp at hca)
                 (try simp at hsa)
                 have ha1 : w0.heap.size + 1 < wa.heap.size := by omega
                 have k3 := (hca _ _ lO).trans c3')
              | (refine step_append_lies _ (by rfl) _ _ _ (by rfl) (w0.heap.size + 2) 44 i1 _ 1 24 Tryz.underlying40 hj hy0 hy1 hy2 rfl (by omega) u q css1.flatten (by rfl) ((((Hor1.out.fr LI ((Fr.refl _).drew)).fr LI hfa).alloc LI _).take (Nat.le_of_lt hqm))
                   ⟨wa.heap.size, 0, none⟩ 1 1 [.slice (some ⟨ga, 0, none⟩) r.length ca] (by rfl) (by rfl) (news_new rfl rfl) (oneCells rfl) (by omega) (by simp only [maxLen]; omega) (by omega) (by simp; omega) (wa.heap.size + 1) (by simp) ?_
                 intro gg cap5 w5 hown1 hgrow hat hlt5
                 have hO5 := (hgrow.block _ (Nat.lt_of_lt_of_le ha1 (by simp)) (fun e => by have := (Hor1.out.lt _ e.symm).1; omega)).trans (at_old ((hfa.block _ lO).trans HO.out))
                 have z5 : w5.frozen? ⟨w0.heap.size + 1, 3, none⟩ = false := (obj_rules2 hO5).2 3
                 have q3 : w5.cell? ⟨w0.heap.size + 1, 3, none⟩ = some u := (obj_rules2 hO5).1 3
                 have HO5 := Lib.hid hO5; clear hO5))
          all_goals
            have hro := Hor1.out.lt
            have hO6 := heap_setCell_same _ _ 3 _ _ (Value.slice (some ⟨gg, 0, none⟩) (q + 1) cap5) HO5.out
            have hor5 := (((((Hor1.out.fr LI ((Fr.refl _).drew)).fr LI hfa).alloc LI (.cells #[.slice (some ⟨ga, 0, none⟩) r.length ca] 44)).next LI (S := fun b => wr.heap.size ≤ b) (c := [.slice (some ⟨ga, 0, none⟩) r.length ca]) hqm
              (by rw [Hrr.out]; exact ⟨ga, ca, rfl, hra.fr (lie_num iN) ((Fr.refl _).alloc _)⟩) rfl (fun b (h : wr.heap.size ≤ b) => ⟨by omega, fun _ e => by have := (hro _ e.symm).2; omega⟩) hown1 hgrow hat (by simp))).low LI ⟨w0.heap.size + 1, 3, none⟩ (.slice (some ⟨gg, 0, none⟩) (q + 1) cap5) (by simp)
            have hf5 : Fr w0 w5 := (((hfi.drew).step hfa).alloc _).grown hgrow (fun q h => by have := (hro _ h).1; omega)
            have HO6 := Lib.hid hO6
            have HOR5 := Lib.hid hor5
            clear hO6 hor5 hown1 hgrow hat z5 q3
            go_wp2
            go_roundw
            case rel => exact ⟨q + 1, by omega, by simp, ⟨_, _, HO6.out, HOR5.out⟩, Fr.set (by show w0.heap.size ≤ w0.heap.size + 1; omega) hf5 _⟩
            case measure => simp [intOf]; omega
        · have hqe : q = p := by omega
          subst hqe
          have hls : m.take q = m := by rw [Hp.out, List.take_length]
          have hor := Hor1.out
          rw [hls] at hor
          obtain ⟨g2, c2', hv2, hrow2⟩ := hor.done LI (by rw [← Hp.out]; exact m0)
          rw [← Hp.out] at hv2
          subst hv2
          have Hrow2 := Lib.hid hrow2
          clear hrow2 hor hls Hor1
          have Hor2 := Lib.hid (Hor.out.fr L hfi)
          go_wp2_with (at_builtin; refine wpList_append_lies _ rfl _ _ 44 rfl w.heap.size 42 i0 (iv 0 0 mt) 4 56 Tryz.underlying44 hi hz0 hz1 hz2 rfl (by decide) _ _ _ rfl ((Hor2.out.alloc L _).take (Nat.le_of_lt hkl)) ⟨wr.heap.size, 0, none⟩ 1 1 [.int .i64 5, .float .f64 0, .string mt, .slice (some ⟨g2, 0, none⟩) q c2'] rfl rfl (news_new rfl rfl) (oneCells rfl) (by decide) (by simp only [maxLen]; omega) (by omega) (by simp; omega) _ rfl ?_)
          intro g5 cap5 w5 hown1 hgrow hat hlt5
          have hro := Hor.out.lt
          have hor5 := (Hor2.out.alloc L (.cells #[.int .i64 5, .float .f64 0, .string mt, .slice (some ⟨g2, 0, none⟩) q c2'] 42)).next L (S := fun b => w0.heap.size + 2 ≤ b) (c := [.int .i64 5, .float .f64 0, .string mt, .slice (some ⟨g2, 0, none⟩) q c2']) hkl
            (by rw [Hmk.out]; exact ⟨_, rfl, g2, c2', by rw [← Hp.out], Hrow2.out.fr LI ((Fr.refl _).alloc _)⟩) rfl (fun b (h : w0.heap.size + 2 ≤ b) => ⟨by omega, fun _ e => by have := (hro _ e.symm).2; omega⟩) hown1 hgrow hat (by simp)
          have hf5 : Fr w w5 := ((hf.step hfi).alloc _).grown hgrow (fun q h => (hro _ h).1)
          have HOR5 := Lib.hid hor5
          clear hor5 hown1 hgrow hat c0 c1 c2 c3
          go_wp2
          go_roundw
          case rel => exact ⟨k + 1, by omega, by simp, ⟨_, HOR5.out⟩, hf5⟩
          case measure => simp [intOf]; omega
    · have hkn : k = n := by omega
      subst hkn
      have hls : ms.take k = ms := by rw [Hn.out, List.take_length]
      have hor := Hor.out
      rw [hls] at hor
      obtain ⟨g2, c, hv2, hrow⟩ := hor.done L (by rw [← Hn.out]; exact h0)
      rw [← Hn.out] at hv2
      subst hv2
      have Hrow := Lib.hid hrow
      clear hrow hor hls Hor
      go_wp2
      go_ret
      exact ⟨g2, c, rfl, Hrow.out, hf⟩
end Go.Proofs.YtlhonpmpchkkfaaGreatDoor
/- The package's lists, block for block: a new one, and its first element. -/
namespace Go.Proofs.YtlhonpmpchkkfaaGreatDoor
open Go.RowKit
open Fl
open Ieee (double)
/-- An empty list in the block p. -/
def nilL (p : Nat) : Array Value := #[.pointer (some ⟨p, 0, none⟩), .pointer (some ⟨p, 0, none⟩), .pointer none, .nilIface, .int .i64 0]
set_option maxRecDepth 100000 in
set_option maxHeartbeats 1000000 in
theorem New_blk (w : World) :
    Calls Tryz.prog 37 #[] w fun e w' => e = .returned (.pointer (some ⟨w.heap.size, 0, none⟩)) ∧ w'.heap[w.heap.size]? = some (.cells (nilL w.heap.size) 89 (0, 0)) ∧ w'.heap.size = w.heap.size + 1 ∧ Fr w w' := by
  go_enter Tryz.func37, Tryz.ntmps37
  go_wp2
  go_ret
  exact ⟨rfl, at_new rfl, by simp, (Fr.refl _).alloc _⟩
set_option maxRecDepth 100000 in
set_option maxHeartbeats 1000000 in
/-- The first element of a list. -/
theorem PushBack_one (w : World) (q : Nat) (ty : TypeId) (cs : Array Value) (hq : w.heap[q]? = some (.cells (nilL q) 89 (0, 0))) :
    Calls Tryz.prog 38 #[.pointer (some ⟨q, 0, none⟩), .iface ty (.agg cs)] w fun e w' =>
      (∃ a, e = .returned (.pointer a)) ∧ w'.heap[q]? = some (.cells #[.pointer (some ⟨w.heap.size, 0, none⟩), .pointer (some ⟨w.heap.size, 0, none⟩), .pointer none, .nilIface, .int .i64 1] 89 (0, 0)) ∧
      w'.heap[w.heap.size]? = some (.cells #[.pointer (some ⟨q, 0, none⟩), .pointer (some ⟨q, 0, none⟩), .pointer (some ⟨q, 0, none⟩), .iface ty (.agg cs)] 68 (0, 0)) ∧ w'.heap.size = w.heap.size + 1 ∧ Below q w w' := by
  have hlt := block_lt hq
  obtain ⟨hc, hz⟩ := obj_rules2 hq
  have r0 : w.cell? ⟨q, 0, none⟩ = some (.pointer (some ⟨q, 0, none⟩)) := hc 0
  have r1 : w.cell? ⟨q, 1, none⟩ = some (.pointer (some ⟨q, 0, none⟩)) := hc 1
  have r4 : w.cell? ⟨q, 4, none⟩ = some (.int .i64 0) := hc 4
  have Hq := Lib.hid hq; clear hq hc
  go_enter Tryz.func38, Tryz.ntmps38
  go_wp2
  go_end0
  go_wp2
  go_ret
  refine ⟨⟨_, rfl⟩, ?_, ?_, by simp, ?_⟩
  · exact at_old (heap_setCell_same _ q 4 _ _ _ (heap_setCell_same _ q 1 _ _ _ (heap_setCell_same _ q 0 _ _ _ Hq.out)))
  · exact at_new (by simp)
  · exact (((Below.refl _ _).setCell (by simp) _ |>.setCell (by simp) _).setCell (by simp) _).alloc (by simp; omega) _
set_option maxRecDepth 100000 in
set_option maxHeartbeats 1000000 in
theorem newMatrix_any (A : Option Addr) (n c : Nat) (w : World) :
    Calls Tryz.prog 35 #[.slice A n c] w fun e w' => e = .returned (.agg #[.string mt, .float .f64 0, .string mt, .slice none 0 0, .slice A n c, .bool false, .string mt, .int .u8 4, .pointer none, .pointer none]) ∧ Fr w w' := by
  go_enter Tryz.func35, Tryz.ntmps35
  go_wp2
  exact bodyPost_ret (v := .agg #[.string mt, .float .f64 0, .string mt, .slice none 0 0, .slice A n c, .bool false, .string mt, .int .u8 4, .pointer none, .pointer none]) (by simp [results, Tryz.results35, go_sem, sv, mt, *]) rfl ⟨rfl, (by repeat (first | (with_reducible exact Fr.refl _) | ((with_reducible refine Fr.set ?_ ?_ _); focus (simp; done)) | (with_reducible refine Fr.alloc ?_ _) | (with_reducible refine Fr.drew ?_) | (with_reducible refine Fr.step ?_ (by assumption))))⟩
/-- A range of cells: from A1 on, so many columns and rows. -/
def rangeA (c r : Nat) : Array Value := #[.int .i64 1, .int .i64 1, .string ⟨#[83, 104, 101, 101, 116, 49]⟩, .int .i64 c, .int .i64 r, .string ⟨#[83, 104, 101, 101, 116, 49]⟩]
/-- A matrix as an argument of the package: its rows, and the lists of the cells that it came from. -/
def fmC (R n cap p q : Nat) : List Value := [.string mt, .float .f64 0, .string mt, .slice none 0 0, .slice (some ⟨R, 0, none⟩) n cap, .bool false, .string mt, .int .u8 4, .pointer (some ⟨p, 0, none⟩), .pointer (some ⟨q, 0, none⟩)]
def EF : Say (List (List Int)) := fun w S m c => ∃ R cap p q b, c = fmC R m.length cap p q ∧ RowOf (ESl (ENum fN) 10) 1 w S R 0 m ∧ S p ∧ S q ∧ S b ∧
  w.heap[p]? = some (.cells (nilL p) 89 (0, 0)) ∧
  w.heap[q]? = some (.cells #[.pointer (some ⟨b, 0, none⟩), .pointer (some ⟨b, 0, none⟩), .pointer none, .nilIface, .int .i64 1] 89 (0, 0)) ∧
  w.heap[b]? = some (.cells #[.pointer (some ⟨q, 0, none⟩), .pointer (some ⟨q, 0, none⟩), .pointer (some ⟨q, 0, none⟩), .iface 97 (.agg (rangeA (m.headD []).length m.length))] 68 (0, 0))
theorem lie_ef : Lie EF :=
  ⟨fun ⟨R, cap, p, q, b, e, h, sp, sq, sb, hp, hq, hb⟩ hw => ⟨R, cap, p, q, b, e, h.same (lie_sl (lie_num fN) 10) hw, sp, sq, sb, (hw p sp (block_lt hp)).trans hp, (hw q sq (block_lt hq)).trans hq, (hw b sb (block_lt hb)).trans hb⟩,
   fun ⟨R, cap, p, q, b, e, h, sp, sq, sb, hp, hq, hb⟩ => ⟨R, cap, p, q, b, e, h.cut (lie_sl (lie_num fN) 10), ⟨sp, block_lt hp⟩, ⟨sq, block_lt hq⟩, ⟨sb, block_lt hb⟩, hp, hq, hb⟩,
   fun ⟨R, cap, p, q, b, e, h, sp, sq, sb, hp, hq, hb⟩ hs => ⟨R, cap, p, q, b, e, h.mono (lie_sl (lie_num fN) 10) hs, hs _ sp, hs _ sq, hs _ sb, hp, hq, hb⟩⟩
end Go.Proofs.YtlhonpmpchkkfaaGreatDoor
