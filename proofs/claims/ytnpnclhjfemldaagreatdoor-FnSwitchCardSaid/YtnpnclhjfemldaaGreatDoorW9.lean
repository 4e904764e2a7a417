import Derived.Test.YtnpnclhjfemldaaGreatDoorW8
import Derived.Deep.RegionHeld3
import Derived.Deep.AppendLies
set_option linter.unusedSimpArgs false
set_option linter.unusedVariables false
/- FnSwitch's walk, up to the shelf's four contracts. -/
namespace Go.Proofs.YtnpnclhjfemldaaGreatDoor
open Go.RowKit
open Fl
open Ieee (double)
set_option maxRecDepth 100000 in
set_option maxHeartbeats 4000000 in
theorem FnSwitch_calls (hM : MulC) (hLc : LenC) (hNc : NumC) (hFc : FmtC) (n : Int) (A1 : Option Addr) (c1 : Nat) (ks : List Int) (A2 : Option Addr) (c2 : Nat) (ls : List Int) (other : Int) (wi : Bool) (w : World)
    (h1 : ZA w A1 ks) (h2 : ZA w A2 ls) (l1 : ks.length ≤ 9223372036854775807) (l2 : ls.length ≤ 9223372036854775807) (ht : Tabs w) :
    Calls Tryz.prog 3 #[.int .i64 n, .slice A1 ks.length c1, .slice A2 ls.length c2, .int .i64 other, .bool wi] w fun e w' => e = .returned (.bool true) ∧ Fr w w' := by
  have H1 := Lib.hid h1; clear h1
  have H2 := Lib.hid h2; clear h2
  have Ht := Lib.hid ht; clear ht
  have HA := Lib.hid (fun A cap a w hv h0 h32 ht => agreesSWITCH hM hLc hNc hFc A cap a w hv h0 h32 ht)
  clear hM hLc hNc hFc
  unfold nmSWITCH at HA
  obtain ⟨nk, hnk⟩ : ∃ m, m = ks.length := ⟨_, rfl⟩
  obtain ⟨nl, hnl⟩ : ∃ m, m = ls.length := ⟨_, rfl⟩
  rw [← hnk] at l1 ⊢
  rw [← hnl] at l2 ⊢
  have Hnk := Lib.hid hnk; clear hnk
  have Hnl := Lib.hid hnl; clear hnl
  obtain ⟨i0, hi, hz0, hz1, hz2⟩ := info_parts Tryz.infoVal
  by_cases hs1 : nk ≤ 15
  · by_cases hs2 : nk ≤ nl
    · by_cases hs3 : (2147483647 : Int) < nl
      · go_enter Tryz.func3, Tryz.ntmps3
        go_wp2
        go_ret
        exact ⟨rfl, (by repeat (first | (with_reducible exact Fr.refl _) | ((with_reducible refine Fr.set ?_ ?_ _); focus (simp; done)) | (with_reducible refine Fr.alloc ?_ _) | (with_reducible refine Fr.drew ?_) | (with_reducible refine Fr.step ?_ (by assumption))))⟩
      · go_enter Tryz.func3, Tryz.ntmps3
        go_wp2_with fail
        refine (argWhole_of n (argV n) rfl _).mono ?_
        rintro e w1 ⟨rfl, hf1⟩
        have hlt1 := hf1.size
        (try simp at hlt1)
        obtain ⟨hc1, hz1'⟩ := hf1.cells
        (try simp at hc1); (try simp at hz1')
        have Hh := Lib.hid (swC_head n)
        generalize argV n = x at *
        have h01 : w.heap.size ≤ w1.heap.size := by omega
        go_wp2
        go_loopw [11, 12] (fun v i wr => ∃ k : Nat, k ≤ nk ∧ i = .int .i64 k ∧ wr.ownsRow w.heap.size 25 5 v (1 + 2 * k) (swC (swA n ks ls k)) ∧ Fr w wr) (fun _ i _ => nk - (intOf i).toNat)
        case atStart =>
          refine ⟨0, Nat.zero_le _, rfl, ?_, (by repeat (first | (with_reducible exact Fr.refl _) | ((with_reducible refine Fr.set ?_ ?_ _); focus (simp; done)) | (with_reducible refine Fr.alloc ?_ _) | (with_reducible refine Fr.drew ?_) | (with_reducible refine Fr.step ?_ (by assumption))))⟩
          rw [show swA n ks ls 0 = [n] from rfl, Hh.out]
          exact World.ownsRow_lit w1 #[.int .i64 x.k, .int .i64 x.n, .int .i64 x.d, .string x.t, .slice none 0 0] 1 h01 (by simp [maxLen]) rfl
        case round =>
          obtain ⟨k, hk, rfl, hown, hf⟩ := hrel
          by_cases hlt : k < nk
          · have hlk : k < ks.length := by rw [← Hnk.out]; exact hlt
            have hll : k < ls.length := by rw [← Hnl.out]; omega
            obtain ⟨g1, o1, rfl, hw1, d1⟩ := H1.out.at hlk
            obtain ⟨g2, o2, rfl, hw2, d2⟩ := H2.out.at hll
            have hg1 : g1 < wr.heap.size := Nat.lt_of_lt_of_le hw1 hf.size
            have hg2 : g2 < wr.heap.size := Nat.lt_of_lt_of_le hw2 hf.size
            replace d1 := (hf.cells.1 _ _ hw1).trans d1
            replace d2 := (hf.cells.1 _ _ hw2).trans d2
            obtain ⟨x1, hx1⟩ : ∃ x, x = argV (ks.getD k 0) := ⟨_, rfl⟩
            obtain ⟨x2, hx2⟩ : ∃ x, x = argV (ls.getD k 0) := ⟨_, rfl⟩
            have Hsw := Lib.hid (swC_two n ks ls k)
            rw [← hx1, ← hx2] at Hsw
            have Hx1 := Lib.hid hx1.symm; clear hx1
            have Hx2 := Lib.hid hx2.symm; clear hx2
            have hk0 : (0 : Int) ≤ (k : Int) := Int.natCast_nonneg _
            have hk1 : (k : Int) < (nk : Int) := by omega
            have hk2 : (k : Int) < (nl : Int) := by omega
            have hsz := hf.size
            have hF := Fr.refl wr
            generalize ks.getD k 0 = z1 at *
            generalize ls.getD k 0 = z2 at *
            go_wp2_with fail
            go_region_held3 (fun w' => w'.cell? ⟨g1, o1 + k, none⟩ = some (.int .i64 z1) ∧ w'.cell? ⟨g2, o2 + k, none⟩ = some (.int .i64 z2))
              (first
                | go_keep
                | (refine ⟨?_, ?_⟩
                   · rw [hgrow.cell_far _ (by simp; omega) (fun e => by have := (hown.lt _ e.symm).1; simp at this; omega)]
                     go_split_ands
                     assumption
                   · rw [hgrow.cell_far _ (by simp; omega) (fun e => by have := (hown.lt _ e.symm).1; simp at this; omega)]
                     go_split_ands
                     assumption))
              (first
                | (refine (argWhole_of z1 x1 Hx1.out _).mono ?_
                   rintro e wa ⟨rfl, hfa⟩
                   have hca := hfa.cells.1
                   have hsa := hfa.size
                   (try simp at hca)
                   (try simp at hsa)
                   have ha1 : g1 < wa.heap.size := by omega
                   have ha2 : g2 < wa.heap.size := by omega)
                | (refine (argWhole_of z2 x2 Hx2.out _).mono ?_
                   rintro e wb ⟨rfl, hfb⟩
                   have hcb := hfb.cells.1
                   have hsb := hfb.size
                   have hb1 : g1 < wb.heap.size := by omega
                   have hb2 : g2 < wb.heap.size := by omega)
                | (refine step_append_lies _ (by rfl) _ _ _ (by rfl) w.heap.size 25 i0 _ 5 64 Tryz.underlying27 hi hz0 hz1 hz2 rfl (by omega) u11 (1 + 2 * k) (swC (swA n ks ls k)) (by rfl) ((own_fr (own_fr (hown.drew) hfa) hfb).alloc _)
                     ⟨wb.heap.size, 0, none⟩ 2 2 (x1.cells ++ x2.cells) (by rfl) (by rfl) (cells_two wb x1 x2 _) (two_cells x1 x2) (by omega) (by simp only [maxLen]; omega) (by omega) (by simp; omega) (wb.heap.size + 1) (by simp) ?_
                   intro gg cap w5 hown1 hgrow hat hlt5))
            have hf5 : Fr w w5 := ((((hf.drew).step hfa).step hfb).alloc _).grown hgrow (fun q e => (hown.lt q e).1)
            rw [← Hsw.out, show 1 + 2 * k + 2 = 1 + 2 * (k + 1) by omega] at hown1
            clear hgrow hat hown hf hfa hfb hF d1 d2
            go_wp2
            go_roundw
            case rel => exact ⟨k + 1, by omega, by simp, hown1, hf5⟩
            case measure => simp [intOf]; omega
          · have hkn : k = nk := by omega
            subst hkn
            have hlen := swA_len n ks ls k
            obtain ⟨a, ha⟩ : ∃ a, a = swA n ks ls k := ⟨_, rfl⟩
            rw [← ha] at hown hlen
            rw [← hlen] at hown
            have Hal := Lib.hid (show 0 < a.length by omega)
            have Ham := Lib.hid (show a.length ≤ 31 by omega)
            clear ha hlen
            cases wi
            · obtain ⟨A', cap', rfl, hV⟩ := VL.sw hown rfl (by have := Ham.out; omega)
              have HV := Lib.hid hV; clear hV hown
              go_wp2_with fail
              refine (HA.out A' cap' a _ HV.out Hal.out (by have := Ham.out; omega) (Ht.out.fr hf)).mono ?_
              rintro e w4 ⟨rfl, hf4⟩
              go_wp2
              go_ret
              exact ⟨rfl, (by repeat (first | (with_reducible exact Fr.refl _) | ((with_reducible refine Fr.set ?_ ?_ _); focus (simp; done)) | (with_reducible refine Fr.alloc ?_ _) | (with_reducible refine Fr.drew ?_) | (with_reducible refine Fr.step ?_ (by assumption))))⟩
            · have Hone := Lib.hid (swC_one a other)
              have HVs := Lib.hid (fun (W : World) (v : Value) (h : W.ownsRow w.heap.size 25 5 v (a.length + 1) (swC (a ++ [other]))) => VL.sw h (by simp) (show (a ++ [other]).length ≤ 1000000 by have := Ham.out; simp; omega))
              have Hl1 := Lib.hid (show (a ++ [other]).length = a.length + 1 by simp)
              generalize a ++ [other] = a1 at *
              generalize a.length = m at *
              go_wp2_with fail
              refine (argWhole_of other (argV other) rfl _).mono ?_
              rintro e w3 ⟨rfl, hf3⟩
              have hown0 := own_fr hown hf3
              have hf2 := hf.step hf3
              have hsz := hf2.size
              clear hown hf
              generalize argV other = y at *
              have Hm := Ham.out
              go_wp2_with (at_builtin; refine wpList_append_own _ rfl _ _ 27 rfl w.heap.size 25 i0 (sv 0 0 0 mt) 5 64 Tryz.underlying27 hi hz0 hz1 hz2 rfl (by decide) _ _ _ rfl (hown0.alloc _) ⟨w3.heap.size, 0, none⟩ 1 1 y.cells rfl rfl (cells_new _ y _) (one_cells y) (by simp only [maxLen]; omega) (by omega) (by simp; omega) ?_)
              intro v' w5 hown1 hgrow _
              rw [← Hone.out] at hown1
              have hf5 : Fr w w5 := (hf2.alloc _).grown hgrow (fun k hk => (hown0.lt k hk).1)
              clear hown0 hgrow hf2
              obtain ⟨A', cap', rfl, hV⟩ := HVs.out _ _ hown1
              have HV := Lib.hid hV; clear hV hown1
              go_wp2_with fail
              refine (HA.out A' cap' a1 _ HV.out (by rw [Hl1.out]; omega) (by rw [Hl1.out]; omega) (Ht.out.fr hf5)).mono ?_
              rintro e w6 ⟨rfl, hf6⟩
              go_wp2
              go_ret
              exact ⟨rfl, (by repeat (first | (with_reducible exact Fr.refl _) | ((with_reducible refine Fr.set ?_ ?_ _); focus (simp; done)) | (with_reducible refine Fr.alloc ?_ _) | (with_reducible refine Fr.drew ?_) | (with_reducible refine Fr.step ?_ (by assumption))))⟩
    · go_enter Tryz.func3, Tryz.ntmps3
      go_wp2
      go_ret
      exact ⟨rfl, (by repeat (first | (with_reducible exact Fr.refl _) | ((with_reducible refine Fr.set ?_ ?_ _); focus (simp; done)) | (with_reducible refine Fr.alloc ?_ _) | (with_reducible refine Fr.drew ?_) | (with_reducible refine Fr.step ?_ (by assumption))))⟩
  · by_cases hs3 : (2147483647 : Int) < nk
    · go_enter Tryz.func3, Tryz.ntmps3
      go_wp2
      go_ret
      exact ⟨rfl, (by repeat (first | (with_reducible exact Fr.refl _) | ((with_reducible refine Fr.set ?_ ?_ _); focus (simp; done)) | (with_reducible refine Fr.alloc ?_ _) | (with_reducible refine Fr.drew ?_) | (with_reducible refine Fr.step ?_ (by assumption))))⟩
    · by_cases hs4 : (2147483647 : Int) < nl
      · go_enter Tryz.func3, Tryz.ntmps3
        go_wp2
        go_ret
        exact ⟨rfl, (by repeat (first | (with_reducible exact Fr.refl _) | ((with_reducible refine Fr.set ?_ ?_ _); focus (simp; done)) | (with_reducible refine Fr.alloc ?_ _) | (with_reducible refine Fr.drew ?_) | (with_reducible refine Fr.step ?_ (by assumption))))⟩
      · go_enter Tryz.func3, Tryz.ntmps3
        go_wp2
        go_ret
        exact ⟨rfl, (by repeat (first | (with_reducible exact Fr.refl _) | ((with_reducible refine Fr.set ?_ ?_ _); focus (simp; done)) | (with_reducible refine Fr.alloc ?_ _) | (with_reducible refine Fr.drew ?_) | (with_reducible refine Fr.step ?_ (by assumption))))⟩
end Go.Proofs.YtnpnclhjfemldaaGreatDoor
