import Derived.Test.YtlhonpmpchkkfaaGreatDoorD29
set_option linter.unusedSimpArgs false
set_option linter.unusedVariables false
/- FnDot: the walk of longer columns. -/
namespace Go.Proofs.YtlhonpmpchkkfaaGreatDoor
open Go.RowKit
open Fl
open Ieee (double)
set_option maxRecDepth 100000 in
set_option maxHeartbeats 8000000 in
theorem dot_great (hV : ValC) (A : Option Addr) (capA : Nat) (ls : List Int) (B : Option Addr) (capB : Nat) (ks : List Int) (w : World) (hA : ZA w A ls) (hB : ZA w B ks) (hla : 30 < ls.length) (hlm : ls.length ≤ 2147483647) (hlb : ks.length ≤ 2147483647) (hT : T3 w) :
    Calls Tryz.prog 3 #[.slice A ls.length capA, .slice B ks.length capB] w fun e w' => e = .returned (.bool true) ∧ Fr w w' := by
  have HA := Lib.hid hA; clear hA
  have HB := Lib.hid hB; clear hB
  have HT := Lib.hid hT; clear hT
  have HMX := Lib.hid (fun W h => matrix_any A capA ls 30 W h (by omega) (by decide) (by decide))
  have HMY := Lib.hid (fun W h => matrix_any B capB ks 30 W h (by omega) (by decide) (by decide))
  have hxl := colN_len ls 30
  have hyl := colN_len ks 30
  have hxb := colN_bound ls 30
  have hyb := colN_bound ks 30
  generalize colN ls 30 = xs at *
  generalize colN ks 30 = ys at *
  have hb53 : ∀ {l : List Int}, (∀ x ∈ l, x.natAbs ≤ 99) → ∀ x ∈ l, x.natAbs < 2 ^ 53 := fun h x hx => by have := h x hx; omega
  have HTurn := Lib.hid (fun g cap W S h => ask_turn S g cap xs W h (by omega) (by omega) hxb)
  have HOf := Lib.hid (fun R cap W S h => of_mat R cap (one ys) W S h (fit_one (by omega) (by omega) (hb53 hyb)))
  have HMul := Lib.hid (fun g cap W S h => implMMULT_dot S g cap xs ys W h (by omega) (by omega) (by omega) hxb hyb)
  have HProd := Lib.hid (fun g cap W S h => ask_prod S g cap xs ys W h (by omega) (by omega) (by omega) hxb hyb)
  have HProq := Lib.hid (fun g cap W S h => ask_prod S g cap xs xs W h (by omega) (by omega) rfl hxb hxb)
  have HSq := Lib.hid (fun g cap W S h hT => ask_sq hV S g cap xs W h (by omega) (by omega) hxb hT)
  have hdb := dotN_bound hxb hyb xs.length
  have hqb := dotN_bound hxb hxb xs.length
  have Hdd := Lib.hid (show FloatKind.f64.format.order (fw (dotN xs ys xs.length)) (fw (dotN xs ys xs.length)) = some .eq from not_nan (FI.own (by omega)))
  have Hqq := Lib.hid (show FloatKind.f64.format.order (fw (dotN xs xs xs.length)) (fw (dotN xs xs xs.length)) = some .eq from not_nan (FI.own (by omega)))
  rw [one_len, hyl] at HOf
  generalize dotN xs ys xs.length = d at *
  generalize dotN xs xs xs.length = q at *
  have Hxl := Lib.hid (show (one xs).length = 30 by rw [one_len]; exact hxl)
  have Hyl := Lib.hid (show (one ys).length = 30 by rw [one_len]; exact hyl)
  have hla1 : (30 : Int) < (ls.length : Int) := by omega
  have hlm1 : (ls.length : Int) ≤ 2147483647 := by omega
  rw [show ((30 : Nat) : Int) = 30 from rfl] at HMX HMY
  have hlb1 : (ks.length : Int) ≤ 2147483647 := by omega
  have LI := lie_sl (lie_num iN) 4
  have LV := lie_sl (lie_num vN) 5
  clear hxl hyl hxb hyb hb53 hdb hqb
  go_enter Tryz.func3, Tryz.ntmps3
  go_wp2_with fail
  refine (HMX.out _ HA.out).mono ?_
  rintro e w1 ⟨gx, cx, rfl, hx, hf1⟩
  go_wp2_with fail
  refine (HMY.out _ (HB.out.fr hf1)).mono ?_
  rintro e w2 ⟨gy, cy, rfl, hy, hf2⟩
  have HX := Lib.hid ((hx.fr LV hf2).mono LV (fun _ _ => trivial)); clear hx
  have HY := Lib.hid (hy.mono LV (fun _ _ => trivial)); clear hy
  have HF := Lib.hid (hf1.step hf2); clear hf1 hf2
  go_wp2_with fail
  obtain ⟨wB, hwB⟩ : ∃ wB, wB = ((w2.alloc (.cells #[.int .i64 5, .int .i64 0, .int .i64 0, .string mt, .slice (some ⟨gx, 0, none⟩) 30 cx] 25)).alloc (.cells #[.int .i64 5, .int .i64 0, .int .i64 0, .string mt, .slice (some ⟨gy, 0, none⟩) 30 cy] 25)) := ⟨_, rfl⟩
  have HFB := Lib.hid (show Fr w2 wB by rw [hwB]; exact ((Fr.refl _).alloc _).alloc _)
  have BX : boxed wB w2.heap.size #[.int .i64 5, .int .i64 0, .int .i64 0, .string mt, .slice (some ⟨gx, 0, none⟩) 30 cx] 25 := by rw [hwB]; exact at_old (at_new rfl)
  have BY : boxed wB (w2.heap.size + 1) #[.int .i64 5, .int .i64 0, .int .i64 0, .string mt, .slice (some ⟨gy, 0, none⟩) 30 cy] 25 := by rw [hwB]; exact at_new (by simp)
  have HBX := Lib.hid BX; clear BX
  have HBY := Lib.hid BY; clear BY
  have lX := block_lt HBX.out
  have lY := block_lt HBY.out
  rw [← hwB]
  have HwB := Lib.hid hwB; clear hwB
  refine wp_region_any (by kernel_rfl) ?_
  refine wpAny_inv (J9 gx cx gy cy 30 xs ys d wB) [0, 1, 2, 3, 4, 5, 6, 7, 8] (by kernel_rfl) rfl (by kernel_rfl) (by decide) ?start ?steps ?done
  case start =>
    refine ⟨false, false, false, false, false, false, false, false, false, undef, undef, undef, undef, undef, undef, undef, undef, rfl, (by simp only [Act.put, List.setIfInBounds_toArray, List.set_cons_zero, List.set_cons_succ]), (Fr.refl _).drew, ?_, ?_, ?_, fun _ => rfl, fun _ => ⟨?_, ?_, ?_, ?_, ?_, ?_⟩, ?_⟩
    all_goals (intro h; cases h)
  case steps =>
    refine StepsOk.cons rfl ?_ (StepsOk.cons rfl ?_ (StepsOk.cons rfl ?_ (StepsOk.cons rfl ?_ (StepsOk.cons rfl ?_ (StepsOk.cons rfl ?_ (StepsOk.cons rfl ?_ (StepsOk.cons rfl ?_ (StepsOk.cons rfl ?_ StepsOk.nil))))))))
    · intro listed a W hl hd hJ K hK
      obtain ⟨f0, f1, f2, f3, f4, f5, f6, f7, f8, u32, u33, u34, u35, u36, u37, u38, u8, e1, e2, hf, j0, j3, jo, ju, j8, jf⟩ := hJ
      subst e1
      simp only [Act.put, List.setIfInBounds_toArray, List.set_cons_zero, List.set_cons_succ] at e2
      subst e2
      simp at hl
      simp [Region.binds] at hd
      clear hd
      have d8 : f8 = false := by cases f8 with | false => rfl | true => rw [hl] at jo; simp at jo
      replace j8 := j8 d8
      have D8 := Lib.hid d8; clear d8 jf
      have HL := Lib.hid hl; clear hl
      have HK := Lib.hid hK; clear hK
      have J0 := Lib.hid j0; clear j0
      have J3 := Lib.hid j3; clear j3
      have JO := Lib.hid jo; clear jo
      have JU := Lib.hid ju; clear ju
      have J8 := Lib.hid j8; clear j8
      have hbx := (hf.block _ lX).trans HBX.out
      obtain ⟨cX, zX⟩ := obj_rules2 hbx
      have lXW := block_lt hbx
      clear hbx
      go_simp
      refine HK.out _ _ ⟨true, f1, f2, f3, f4, f5, f6, f7, f8, (.agg #[.int .i64 5, .int .i64 0, .int .i64 0, .string mt, .slice (some ⟨gx, 0, none⟩) 30 cx]), u33, u34, u35, u36, u37, u38, u8, by simp, (by simp only [Act.put, List.setIfInBounds_toArray, List.set_cons_zero, List.set_cons_succ]), hf, fun _ => rfl, J3.out, fun h => (by rw [D8.out] at h; cases h), JU.out, fun _ => J8.out, fun h => (by rw [D8.out] at h; cases h)⟩
    · intro listed a W hl hd hJ K hK
      obtain ⟨f0, f1, f2, f3, f4, f5, f6, f7, f8, u32, u33, u34, u35, u36, u37, u38, u8, e1, e2, hf, j0, j3, jo, ju, j8, jf⟩ := hJ
      subst e1
      simp only [Act.put, List.setIfInBounds_toArray, List.set_cons_zero, List.set_cons_succ] at e2
      subst e2
      simp at hl
      simp [Region.binds] at hd
      have d0 : f0 = true := by cases f0 with | false => simp at hd | true => rfl
      clear hd
      have d8 : f8 = false := by cases f8 with | false => rfl | true => rw [hl] at jo; simp at jo
      replace j8 := j8 d8
      have D8 := Lib.hid d8; clear d8 jf
      obtain rfl := j0 d0
      have D0 := Lib.hid d0; clear d0
      have HL := Lib.hid hl; clear hl
      have HK := Lib.hid hK; clear hK
      have J0 := Lib.hid j0; clear j0
      have J3 := Lib.hid j3; clear j3
      have JO := Lib.hid jo; clear jo
      have JU := Lib.hid ju; clear ju
      have J8 := Lib.hid j8; clear j8
      go_simp
      have hfa : Fr W (W.alloc (.cells #[.int .i64 5, .int .i64 0, .int .i64 0, .string mt, .slice (some ⟨gx, 0, none⟩) 30 cx] 25)) := (Fr.refl W).alloc _
      obtain ⟨_, k2, k4, k5, k6, k7⟩ := J9.keep hfa J8.out
      refine HK.out _ _ ⟨f0, true, f2, f3, f4, f5, f6, f7, f8, (.agg #[.int .i64 5, .int .i64 0, .int .i64 0, .string mt, .slice (some ⟨gx, 0, none⟩) 30 cx]), (.slice (some ⟨W.heap.size, 0, none⟩) 1 1), u34, u35, u36, u37, u38, u8, by simp, (by simp only [Act.put, List.setIfInBounds_toArray, List.set_cons_zero, List.set_cons_succ]), hf.step hfa, J0.out, J3.out, fun h => (by rw [D8.out] at h; cases h), JU.out, fun _ => ⟨fun _ => ⟨_, _, rfl, row_one_em (at_new rfl) Hxl.out (HX.out.fr LV (HFB.out.step (hf.step hfa)))⟩, k2, k4, k5, k6, k7⟩, fun h => (by rw [D8.out] at h; cases h)⟩
    · intro listed a W hl hd hJ K hK
      obtain ⟨f0, f1, f2, f3, f4, f5, f6, f7, f8, u32, u33, u34, u35, u36, u37, u38, u8, e1, e2, hf, j0, j3, jo, ju, j8, jf⟩ := hJ
      subst e1
      simp only [Act.put, List.setIfInBounds_toArray, List.set_cons_zero, List.set_cons_succ] at e2
      subst e2
      simp at hl
      simp [Region.binds] at hd
      have d1 : f1 = true := by cases f1 with | false => simp at hd | true => rfl
      clear hd
      have d8 : f8 = false := by cases f8 with | false => rfl | true => rw [hl] at jo; simp at jo
      replace j8 := j8 d8
      have D8 := Lib.hid d8; clear d8 jf
      have D1 := Lib.hid d1; clear d1
      have HL := Lib.hid hl; clear hl
      have HK := Lib.hid hK; clear hK
      have J0 := Lib.hid j0; clear j0
      have J3 := Lib.hid j3; clear j3
      have JO := Lib.hid jo; clear jo
      have JU := Lib.hid ju; clear ju
      have J8 := Lib.hid j8; clear j8
      obtain ⟨g9, c9, e9, hr9⟩ := J8.out.1 D1.out
      subst e9
      go_simp
      refine (HTurn.out g9 c9 _ _ hr9).mono ?_
      rintro e wa ⟨R, cR, rfl, hrR, hfa⟩
      go_wp2_with fail
      obtain ⟨k1, _, k4, k5, k6, k7⟩ := J9.keep hfa J8.out
      refine HK.out _ _ ⟨f0, f1, true, f3, f4, f5, f6, f7, f8, u32, (.slice (some ⟨g9, 0, none⟩) 1 c9), (.agg #[.int .i64 5, .float .f64 0, .string mt, .slice (some ⟨R, 0, none⟩) 1 cR]), u35, u36, u37, u38, u8, by simp, (by simp only [Act.put, List.setIfInBounds_toArray, List.set_cons_zero, List.set_cons_succ]), hf.step hfa, J0.out, J3.out, fun h => (by rw [D8.out] at h; cases h), JU.out, fun _ => ⟨k1, fun _ => ⟨R, cR, rfl, hrR.mono LI fun _ _ => trivial⟩, k4, k5, k6, k7⟩, fun h => (by rw [D8.out] at h; cases h)⟩
    · intro listed a W hl hd hJ K hK
      obtain ⟨f0, f1, f2, f3, f4, f5, f6, f7, f8, u32, u33, u34, u35, u36, u37, u38, u8, e1, e2, hf, j0, j3, jo, ju, j8, jf⟩ := hJ
      subst e1
      simp only [Act.put, List.setIfInBounds_toArray, List.set_cons_zero, List.set_cons_succ] at e2
      subst e2
      simp at hl
      simp [Region.binds] at hd
      clear hd
      have d8 : f8 = false := by cases f8 with | false => rfl | true => rw [hl] at jo; simp at jo
      replace j8 := j8 d8
      have D8 := Lib.hid d8; clear d8 jf
      have HL := Lib.hid hl; clear hl
      have HK := Lib.hid hK; clear hK
      have J0 := Lib.hid j0; clear j0
      have J3 := Lib.hid j3; clear j3
      have JO := Lib.hid jo; clear jo
      have JU := Lib.hid ju; clear ju
      have J8 := Lib.hid j8; clear j8
      have hbx := (hf.block _ lY).trans HBY.out
      obtain ⟨cX, zX⟩ := obj_rules2 hbx
      have lXW := block_lt hbx
      clear hbx
      go_simp
      refine HK.out _ _ ⟨f0, f1, f2, true, f4, f5, f6, f7, f8, u32, u33, u34, (.agg #[.int .i64 5, .int .i64 0, .int .i64 0, .string mt, .slice (some ⟨gy, 0, none⟩) 30 cy]), u36, u37, u38, u8, by simp, (by simp only [Act.put, List.setIfInBounds_toArray, List.set_cons_zero, List.set_cons_succ]), hf, J0.out, fun _ => rfl, fun h => (by rw [D8.out] at h; cases h), JU.out, fun _ => J8.out, fun h => (by rw [D8.out] at h; cases h)⟩
    · intro listed a W hl hd hJ K hK
      obtain ⟨f0, f1, f2, f3, f4, f5, f6, f7, f8, u32, u33, u34, u35, u36, u37, u38, u8, e1, e2, hf, j0, j3, jo, ju, j8, jf⟩ := hJ
      subst e1
      simp only [Act.put, List.setIfInBounds_toArray, List.set_cons_zero, List.set_cons_succ] at e2
      subst e2
      simp at hl
      simp [Region.binds] at hd
      have d2 : f2 = true := by cases f2 with | false => simp at hd | true => rfl
      have d3 : f3 = true := by cases f3 with | false => simp at hd | true => rfl
      clear hd
      have d8 : f8 = false := by cases f8 with | false => rfl | true => rw [hl] at jo; simp at jo
      replace j8 := j8 d8
      have D8 := Lib.hid d8; clear d8 jf
      obtain rfl := j3 d3
      have D2 := Lib.hid d2; clear d2
      have D3 := Lib.hid d3; clear d3
      have HL := Lib.hid hl; clear hl
      have HK := Lib.hid hK; clear hK
      have J0 := Lib.hid j0; clear j0
      have J3 := Lib.hid j3; clear j3
      have JO := Lib.hid jo; clear jo
      have JU := Lib.hid ju; clear ju
      have J8 := Lib.hid j8; clear j8
      go_simp
      refine (HOf.out gy cy _ _ (HY.out.fr LV (HFB.out.step hf))).mono ?_
      rintro e wa ⟨R, cR, rfl, hrR, hfa⟩
      go_wp2_with fail
      obtain ⟨k1, k2, _, k5, k6, k7⟩ := J9.keep hfa J8.out
      refine HK.out _ _ ⟨f0, f1, f2, f3, true, f5, f6, f7, f8, u32, u33, u34, (.agg #[.int .i64 5, .int .i64 0, .int .i64 0, .string mt, .slice (some ⟨gy, 0, none⟩) 30 cy]), (.agg #[.int .i64 5, .float .f64 0, .string mt, .slice (some ⟨R, 0, none⟩) 30 cR]), u37, u38, u8, by simp, (by simp only [Act.put, List.setIfInBounds_toArray, List.set_cons_zero, List.set_cons_succ]), hf.step hfa, J0.out, fun _ => rfl, fun h => (by rw [D8.out] at h; cases h), JU.out, fun _ => ⟨k1, k2, fun _ => ⟨R, cR, rfl, hrR.mono LI fun _ _ => trivial⟩, k5, k6, k7⟩, fun h => (by rw [D8.out] at h; cases h)⟩
    · intro listed a W hl hd hJ K hK
      obtain ⟨f0, f1, f2, f3, f4, f5, f6, f7, f8, u32, u33, u34, u35, u36, u37, u38, u8, e1, e2, hf, j0, j3, jo, ju, j8, jf⟩ := hJ
      subst e1
      simp only [Act.put, List.setIfInBounds_toArray, List.set_cons_zero, List.set_cons_succ] at e2
      subst e2
      simp at hl
      simp [Region.binds] at hd
      have d2 : f2 = true := by cases f2 with | false => simp at hd | true => rfl
      have d4 : f4 = true := by cases f4 with | false => simp at hd | true => rfl
      clear hd
      have d8 : f8 = false := by cases f8 with | false => rfl | true => rw [hl] at jo; simp at jo
      replace j8 := j8 d8
      have D8 := Lib.hid d8; clear d8 jf
      have D2 := Lib.hid d2; clear d2
      have D4 := Lib.hid d4; clear d4
      have HL := Lib.hid hl; clear hl
      have HK := Lib.hid hK; clear hK
      have J0 := Lib.hid j0; clear j0
      have J3 := Lib.hid j3; clear j3
      have JO := Lib.hid jo; clear jo
      have JU := Lib.hid ju; clear ju
      have J8 := Lib.hid j8; clear j8
      obtain ⟨R1, c1, e1, hr1⟩ := J8.out.2.1 D2.out
      subst e1
      obtain ⟨R2, c2, e2, hr2⟩ := J8.out.2.2.1 D4.out
      subst e2
      go_simp
      have hfa : Fr W (W.alloc (.cells #[.int .i64 5, .float .f64 0, .string mt, .slice (some ⟨R1, 0, none⟩) 1 c1, .int .i64 5, .float .f64 0, .string mt, .slice (some ⟨R2, 0, none⟩) 30 c2] 30)) := (Fr.refl W).alloc _
      obtain ⟨k1, k2, k4, _, k6, k7⟩ := J9.keep hfa J8.out
      refine HK.out _ _ ⟨f0, f1, f2, f3, f4, true, f6, f7, f8, u32, u33, (.agg #[.int .i64 5, .float .f64 0, .string mt, .slice (some ⟨R1, 0, none⟩) 1 c1]), u35, (.agg #[.int .i64 5, .float .f64 0, .string mt, .slice (some ⟨R2, 0, none⟩) 30 c2]), (.slice (some ⟨W.heap.size, 0, none⟩) 2 2), u38, u8, by simp, (by simp only [Act.put, List.setIfInBounds_toArray, List.set_cons_zero, List.set_cons_succ]), hf.step hfa, J0.out, J3.out, fun h => (by rw [D8.out] at h; cases h), JU.out, fun _ => ⟨k1, k2, k4, fun _ => ⟨_, _, rfl, row_two_ei (at_new rfl) rfl Hyl.out (hr1.fr LI hfa) (hr2.fr LI hfa)⟩, k6, k7⟩, fun h => (by rw [D8.out] at h; cases h)⟩
    · intro listed a W hl hd hJ K hK
      obtain ⟨f0, f1, f2, f3, f4, f5, f6, f7, f8, u32, u33, u34, u35, u36, u37, u38, u8, e1, e2, hf, j0, j3, jo, ju, j8, jf⟩ := hJ
      subst e1
      simp only [Act.put, List.setIfInBounds_toArray, List.set_cons_zero, List.set_cons_succ] at e2
      subst e2
      simp at hl
      simp [Region.binds] at hd
      have d4 : f4 = true := by cases f4 with | false => simp at hd | true => rfl
      have d5 : f5 = true := by cases f5 with | false => simp at hd | true => rfl
      clear hd
      have d8 : f8 = false := by cases f8 with | false => rfl | true => rw [hl] at jo; simp at jo
      replace j8 := j8 d8
      have D8 := Lib.hid d8; clear d8 jf
      have D4 := Lib.hid d4; clear d4
      have D5 := Lib.hid d5; clear d5
      have HL := Lib.hid hl; clear hl
      have HK := Lib.hid hK; clear hK
      have J0 := Lib.hid j0; clear j0
      have J3 := Lib.hid j3; clear j3
      have JO := Lib.hid jo; clear jo
      have JU := Lib.hid ju; clear ju
      have J8 := Lib.hid j8; clear j8
      obtain ⟨g9, c9, e9, hr9⟩ := J8.out.2.2.2.1 D5.out
      subst e9
      go_simp
      refine (HMul.out g9 c9 _ _ hr9).mono ?_
      rintro e wa ⟨R, cR, rfl, hrR, hfa⟩
      go_wp2_with fail
      have h8 : ∀ b, W.heap.size ≤ b → u8 ≠ .pointer (some ⟨b, 0, none⟩) := by
        intro b hb e
        cases f7 with
        | false => rw [JU.out rfl] at e; cases e
        | true =>
          obtain ⟨b', cs, e', _, _, hbx⟩ := J8.out.2.2.2.2.2 rfl
          rw [e'] at e
          injection e with e
          injection e with e
          injection e with e
          have := block_lt hbx
          omega
      obtain ⟨k1, k2, k4, k5, _, k7⟩ := J9.keep hfa J8.out
      refine HK.out _ _ ⟨f0, f1, f2, f3, f4, f5, true, f7, f8, u32, u33, u34, u35, u36, (.slice (some ⟨g9, 0, none⟩) 2 c9), (.agg #[.int .i64 5, .float .f64 0, .string mt, .slice (some ⟨R, 0, none⟩) 1 cR]), u8, by simp, (by simp only [Act.put, List.setIfInBounds_toArray, List.set_cons_zero, List.set_cons_succ]), hf.step hfa, J0.out, J3.out, fun h => (by rw [D8.out] at h; cases h), JU.out, fun _ => ⟨k1, k2, k4, k5, fun _ => ⟨R, cR, rfl, hrR.mono LI h8⟩, k7⟩, fun h => (by rw [D8.out] at h; cases h)⟩
    · intro listed a W hl hd hJ K hK
      obtain ⟨f0, f1, f2, f3, f4, f5, f6, f7, f8, u32, u33, u34, u35, u36, u37, u38, u8, e1, e2, hf, j0, j3, jo, ju, j8, jf⟩ := hJ
      subst e1
      simp only [Act.put, List.setIfInBounds_toArray, List.set_cons_zero, List.set_cons_succ] at e2
      subst e2
      simp at hl
      simp [Region.binds] at hd
      clear hd
      have d8 : f8 = false := by cases f8 with | false => rfl | true => rw [hl] at jo; simp at jo
      replace j8 := j8 d8
      have D8 := Lib.hid d8; clear d8 jf
      have HL := Lib.hid hl; clear hl
      have HK := Lib.hid hK; clear hK
      have J0 := Lib.hid j0; clear j0
      have J3 := Lib.hid j3; clear j3
      have JO := Lib.hid jo; clear jo
      have JU := Lib.hid ju; clear ju
      have J8 := Lib.hid j8; clear j8
      go_simp
      have hfa : Fr W (W.alloc (.cells #[.int .i64 0, .float .f64 0, .string mt, .slice none 0 0] 30)) := (Fr.refl W).alloc _
      obtain ⟨k1, k2, k4, k5, k6, _⟩ := J8.out
      have k6' : f6 = true → ∃ R c, u38 = .agg #[.int .i64 5, .float .f64 0, .string mt, .slice (some ⟨R, 0, none⟩) 1 c] ∧ RowOf (ESl (ENum iN) 4) 1 W (fun b => Value.pointer (some ⟨W.heap.size, 0, none⟩) ≠ .pointer (some ⟨b, 0, none⟩)) R 0 [[d]] := fun h => by
        obtain ⟨R, c, e, hr⟩ := k6 h
        refine ⟨R, c, e, (hr.cut LI).mono LI fun b hb e => ?_⟩
        injection e with e
        injection e with e
        injection e with e
        omega
      obtain ⟨k1, k2, k4, k5, k6, _⟩ := J9.keep hfa (⟨k1, k2, k4, k5, k6', fun (h : false = true) => (by cases h)⟩ : _ ∧ _ ∧ _ ∧ _ ∧ _ ∧ (false = true → ∃ b cs, Value.pointer (some ⟨W.heap.size, 0, none⟩) = .pointer (some ⟨b, 0, none⟩) ∧ wB.heap.size ≤ b ∧ cs.size = 4 ∧ boxed W b cs 30))
      refine HK.out _ _ ⟨f0, f1, f2, f3, f4, f5, f6, true, f8, u32, u33, u34, u35, u36, u37, u38, (.pointer (some ⟨W.heap.size, 0, none⟩)), by simp, (by simp only [Act.put, List.setIfInBounds_toArray, List.set_cons_zero, List.set_cons_succ]), hf.step hfa, J0.out, J3.out, fun h => (by rw [D8.out] at h; cases h), fun h => (by cases h), fun _ => ⟨k1, k2, k4, k5, k6, fun _ => ⟨_, _, rfl, hf.size, rfl, at_new rfl⟩⟩, fun h => (by rw [D8.out] at h; cases h)⟩
    · intro listed a W hl hd hJ K hK
      obtain ⟨f0, f1, f2, f3, f4, f5, f6, f7, f8, u32, u33, u34, u35, u36, u37, u38, u8, e1, e2, hf, j0, j3, jo, ju, j8, jf⟩ := hJ
      subst e1
      simp only [Act.put, List.setIfInBounds_toArray, List.set_cons_zero, List.set_cons_succ] at e2
      subst e2
      simp at hl
      simp [Region.binds] at hd
      have d0 : f0 = true := by cases f0 with | false => simp at hd | true => rfl
      have d1 : f1 = true := by cases f1 with | false => simp at hd | true => rfl
      have d2 : f2 = true := by cases f2 with | false => simp at hd | true => rfl
      have d3 : f3 = true := by cases f3 with | false => simp at hd | true => rfl
      have d4 : f4 = true := by cases f4 with | false => simp at hd | true => rfl
      have d5 : f5 = true := by cases f5 with | false => simp at hd | true => rfl
      have d6 : f6 = true := by cases f6 with | false => simp at hd | true => rfl
      have d7 : f7 = true := by cases f7 with | false => simp at hd | true => rfl
      clear hd
      replace j8 := j8 hl
      clear jf
      obtain rfl := j0 d0
      obtain rfl := j3 d3
      have D0 := Lib.hid d0; clear d0
      have D1 := Lib.hid d1; clear d1
      have D2 := Lib.hid d2; clear d2
      have D3 := Lib.hid d3; clear d3
      have D4 := Lib.hid d4; clear d4
      have D5 := Lib.hid d5; clear d5
      have D6 := Lib.hid d6; clear d6
      have D7 := Lib.hid d7; clear d7
      have HL := Lib.hid hl; clear hl
      have HK := Lib.hid hK; clear hK
      have J0 := Lib.hid j0; clear j0
      have J3 := Lib.hid j3; clear j3
      have JO := Lib.hid jo; clear jo
      have JU := Lib.hid ju; clear ju
      have J8 := Lib.hid j8; clear j8
      obtain ⟨R, cR, e6, hr6⟩ := J8.out.2.2.2.2.1 D6.out
      subst e6
      obtain ⟨b, cs, e7, hb, hcs, hbx⟩ := J8.out.2.2.2.2.2 D7.out
      subst e7
      obtain ⟨cX, zX⟩ := obj_rules2 hbx
      have lb := block_lt hbx
      have HBb := Lib.hid hbx; clear hbx
      have Hr6 := Lib.hid hr6; clear hr6
      obtain ⟨x0, x1, x2, x3, ecs⟩ := arr4 hcs
      subst ecs
      have y0 := cX 0
      have y1 := cX 1
      have y2 := cX 2
      have y3 := cX 3
      simp at y0 y1 y2 y3
      go_simp
      refine HK.out _ _ ⟨f0, f1, f2, f3, f4, f5, f6, f7, true, .agg #[.int .i64 5, .int .i64 0, .int .i64 0, .string mt, .slice (some ⟨gx, 0, none⟩) 30 cx], u33, u34, .agg #[.int .i64 5, .int .i64 0, .int .i64 0, .string mt, .slice (some ⟨gy, 0, none⟩) 30 cy], u36, u37, .agg #[.int .i64 5, .float .f64 0, .string mt, .slice (some ⟨R, 0, none⟩) 1 cR], .pointer (some ⟨b, 0, none⟩), by simp, (by simp only [Act.put, List.setIfInBounds_toArray, List.set_cons_zero, List.set_cons_succ]), ?_, fun _ => rfl, fun _ => rfl, fun _ => by simp [D0.out, D1.out, D2.out, D3.out, D4.out, D5.out, D6.out, D7.out], fun h => (by rw [D7.out] at h; cases h), fun h => (by cases h), fun _ => ⟨b, R, cR, rfl, hb, boxed_set4 HBb.out rfl _ _ _ _, ?_⟩⟩
      · exact Fr.set hb (Fr.set hb (Fr.set hb (Fr.set hb hf _) _) _) _
      · have hne : ∀ x, (Value.pointer (some ⟨b, 0, none⟩) ≠ .pointer (some ⟨x, 0, none⟩)) → x ≠ b := fun x h e => h (by rw [e])
        exact (((((Hr6.out.mono LI hne).set LI _ _ fun _ h => h).set LI _ _ fun _ h => h).set LI _ _ fun _ h => h).set LI _ _ fun _ h => h)
  case done =>
    intro listed a W9 hall hJ
    obtain ⟨f0, f1, f2, f3, f4, f5, f6, f7, f8, u32, u33, u34, u35, u36, u37, u38, u8, e1, e2, hf, j0, j3, jo, ju, j8, jf⟩ := hJ
    subst e1
    have d8 : f8 = true := by have := hall 8 (by simp); simpa using this
    obtain ⟨b8, R8, c8, e8, hb8, hbx8, hr8⟩ := jf d8
    subst e8
    simp only [Act.put, List.setIfInBounds_toArray, List.set_cons_zero, List.set_cons_succ] at e2
    subst e2
    have HB8 := Lib.hid hbx8; clear hbx8
    have HR8 := Lib.hid hr8; clear hr8
    have lX9 : w2.heap.size < W9.heap.size := Nat.lt_of_lt_of_le lX hf.size
    have lY9 : w2.heap.size + 1 < W9.heap.size := Nat.lt_of_lt_of_le lY hf.size
    have lb8 := block_lt HB8.out
    obtain ⟨cX, zX⟩ := obj_rules2 (HBX.out.fr hf)
    obtain ⟨cY, zY⟩ := obj_rules2 (HBY.out.fr hf)
    have HF9 := Lib.hid hf; clear hf
    clear j0 j3 jo ju j8 jf hall d8
    go_wp2_with fail
    refine (HProd.out _ _ _ _ (row_two_em (at_new rfl) Hxl.out Hyl.out ((HX.out.fr LV (HFB.out.step HF9.out)).fr LV ((Fr.refl _).alloc _)) ((HY.out.fr LV (HFB.out.step HF9.out)).fr LV ((Fr.refl _).alloc _)))).mono ?_
    rintro e w10 ⟨rfl, hf10⟩
    have hsz10 := hf10.size
    simp at hsz10
    unfold iv
    clear cX zX cY zY
    go_wp2_with fail
    obtain ⟨wC, hwC⟩ : ∃ wC, wC = w10.alloc (.cells #[.int .i64 1, .float .f64 (fw d), .string mt, .slice none 0 0] 30) := ⟨_, rfl⟩
    have HFC := Lib.hid (show Fr W9 wC by rw [hwC]; exact (((Fr.refl _).alloc _).step hf10).alloc _)
    have HB9 := Lib.hid (show boxed wC w10.heap.size #[.int .i64 1, .float .f64 (fw d), .string mt, .slice none 0 0] 30 by rw [hwC]; exact at_new rfl)
    have HCX := Lib.hid (HBX.out.fr (HF9.out.step HFC.out))
    have HCR := Lib.hid (HX.out.fr LV ((HFB.out.step HF9.out).step HFC.out))
    have HTC := Lib.hid (HT.out.fr (((HF.out.step HFB.out).step HF9.out).step HFC.out))
    have lXC := block_lt HCX.out
    rw [← hwC]
    clear hwC
    refine wp_region_any (by kernel_rfl) ?_
    refine wpAny_inv (J11 gx cx 30 xs q wC) [0, 1, 2, 3, 4, 5, 6, 7, 8, 9, 10] (by kernel_rfl) rfl (by kernel_rfl) (by decide) ?start ?steps ?done
    case start =>
      refine ⟨false, false, false, false, false, false, false, false, false, false, false, undef, undef, undef, undef, undef, undef, undef, undef, undef, rfl, (by simp only [Act.put, List.setIfInBounds_toArray, List.set_cons_zero, List.set_cons_succ]), (Fr.refl _).drew, ?_, ?_, ?_, ?_, ?_, ?_, ?_, ?_, ?_, fun _ => rfl, fun _ => ⟨?_, ?_⟩, ?_, ?_⟩
      all_goals (intro h; cases h)
    case steps =>
      refine StepsOk.cons rfl ?_ (StepsOk.cons rfl ?_ (StepsOk.cons rfl ?_ (StepsOk.cons rfl ?_ (StepsOk.cons rfl ?_ (StepsOk.cons rfl ?_ (StepsOk.cons rfl ?_ (StepsOk.cons rfl ?_ (StepsOk.cons rfl ?_ (StepsOk.cons rfl ?_ (StepsOk.cons rfl ?_ StepsOk.nil))))))))))
      · intro listed a W hl hd hJ K hK
        obtain ⟨f0, f1, f2, f3, f4, f5, f6, f7, f8, f9, f10, u43, u44, u45, u46, u47, u48, u49, u10, u11, e1, e2, hf, j0, j1, j4, jo, jp, jm, jn, j3, j6, ju, jb⟩ := hJ
        subst e1
        simp only [Act.put, List.setIfInBounds_toArray, List.set_cons_zero, List.set_cons_succ] at e2
        subst e2
        simp at hl
        simp [Region.binds] at hd
        clear hd
        have d9 : f9 = false := by cases f9 with | false => rfl | true => rw [hl] at jo; simp at jo
        have d10 : f10 = false := by cases f10 with | false => rfl | true => rw [d9] at jp; simp at jp
        have D9 := Lib.hid d9; clear d9
        have D10 := Lib.hid d10; clear d10
        have HL := Lib.hid hl; clear hl
        have HK := Lib.hid hK; clear hK
        have Hj0 := Lib.hid j0; clear j0
        have Hj1 := Lib.hid j1; clear j1
        have Hj4 := Lib.hid j4; clear j4
        have Hjo := Lib.hid jo; clear jo
        have Hjp := Lib.hid jp; clear jp
        have Hjm := Lib.hid jm; clear jm
        have Hjn := Lib.hid jn; clear jn
        have Hj3 := Lib.hid j3; clear j3
        have Hj6 := Lib.hid j6; clear j6
        have Hju := Lib.hid ju; clear ju
        have Hjb := Lib.hid jb; clear jb
        have hbx := (hf.block _ lXC).trans HCX.out
        obtain ⟨cX, zX⟩ := obj_rules2 hbx
        have lXW := block_lt hbx
        clear hbx
        go_simp
        refine HK.out _ _ ⟨true, f1, f2, f3, f4, f5, f6, f7, f8, f9, f10, (.agg #[.int .i64 5, .int .i64 0, .int .i64 0, .string mt, .slice (some ⟨gx, 0, none⟩) 30 cx]), u44, u45, u46, u47, u48, u49, u10, u11, by simp, (by simp only [Act.put, List.setIfInBounds_toArray, List.set_cons_zero, List.set_cons_succ]), hf, fun _ => rfl, Hj1.out, Hj4.out, fun h => (by rw [D9.out] at h; cases h), Hjp.out, Hjm.out, Hjn.out, Hj3.out, Hj6.out, Hju.out, Hjb.out⟩
      · intro listed a W hl hd hJ K hK
        obtain ⟨f0, f1, f2, f3, f4, f5, f6, f7, f8, f9, f10, u43, u44, u45, u46, u47, u48, u49, u10, u11, e1, e2, hf, j0, j1, j4, jo, jp, jm, jn, j3, j6, ju, jb⟩ := hJ
        subst e1
        simp only [Act.put, List.setIfInBounds_toArray, List.set_cons_zero, List.set_cons_succ] at e2
        subst e2
        simp at hl
        simp [Region.binds] at hd
        clear hd
        have d9 : f9 = false := by cases f9 with | false => rfl | true => rw [hl] at jo; simp at jo
        have d10 : f10 = false := by cases f10 with | false => rfl | true => rw [d9] at jp; simp at jp
        have D9 := Lib.hid d9; clear d9
        have D10 := Lib.hid d10; clear d10
        have HL := Lib.hid hl; clear hl
        have HK := Lib.hid hK; clear hK
        have Hj0 := Lib.hid j0; clear j0
        have Hj1 := Lib.hid j1; clear j1
        have Hj4 := Lib.hid j4; clear j4
        have Hjo := Lib.hid jo; clear jo
        have Hjp := Lib.hid jp; clear jp
        have Hjm := Lib.hid jm; clear jm
        have Hjn := Lib.hid jn; clear jn
        have Hj3 := Lib.hid j3; clear j3
        have Hj6 := Lib.hid j6; clear j6
        have Hju := Lib.hid ju; clear ju
        have Hjb := Lib.hid jb; clear jb
        have hbx := (hf.block _ lXC).trans HCX.out
        obtain ⟨cX, zX⟩ := obj_rules2 hbx
        have lXW := block_lt hbx
        clear hbx
        go_simp
        refine HK.out _ _ ⟨f0, true, f2, f3, f4, f5, f6, f7, f8, f9, f10, u43, (.agg #[.int .i64 5, .int .i64 0, .int .i64 0, .string mt, .slice (some ⟨gx, 0, none⟩) 30 cx]), u45, u46, u47, u48, u49, u10, u11, by simp, (by simp only [Act.put, List.setIfInBounds_toArray, List.set_cons_zero, List.set_cons_succ]), hf, Hj0.out, fun _ => rfl, Hj4.out, fun h => (by rw [D9.out] at h; cases h), Hjp.out, Hjm.out, Hjn.out, Hj3.out, Hj6.out, Hju.out, Hjb.out⟩
      · intro listed a W hl hd hJ K hK
        obtain ⟨f0, f1, f2, f3, f4, f5, f6, f7, f8, f9, f10, u43, u44, u45, u46, u47, u48, u49, u10, u11, e1, e2, hf, j0, j1, j4, jo, jp, jm, jn, j3, j6, ju, jb⟩ := hJ
        subst e1
        simp only [Act.put, List.setIfInBounds_toArray, List.set_cons_zero, List.set_cons_succ] at e2
        subst e2
        simp at hl
        simp [Region.binds] at hd
        have d0 : f0 = true := by cases f0 with | false => simp at hd | true => rfl
        have d1 : f1 = true := by cases f1 with | false => simp at hd | true => rfl
        clear hd
        have d9 : f9 = false := by cases f9 with | false => rfl | true => rw [hl] at jo; simp at jo
        have d10 : f10 = false := by cases f10 with | false => rfl | true => rw [d9] at jp; simp at jp
        have D9 := Lib.hid d9; clear d9
        have D10 := Lib.hid d10; clear d10
        obtain rfl := j0 d0
        obtain rfl := j1 d1
        have D0 := Lib.hid d0; clear d0
        have D1 := Lib.hid d1; clear d1
        have HL := Lib.hid hl; clear hl
        have HK := Lib.hid hK; clear hK
        have Hj0 := Lib.hid j0; clear j0
        have Hj1 := Lib.hid j1; clear j1
        have Hj4 := Lib.hid j4; clear j4
        have Hjo := Lib.hid jo; clear jo
        have Hjp := Lib.hid jp; clear jp
        have Hjm := Lib.hid jm; clear jm
        have Hjn := Lib.hid jn; clear jn
        have Hj3 := Lib.hid j3; clear j3
        have Hj6 := Lib.hid j6; clear j6
        have Hju := Lib.hid ju; clear ju
        have Hjb := Lib.hid jb; clear jb
        go_simp
        have hfa : Fr W (W.alloc (.cells #[.int .i64 5, .int .i64 0, .int .i64 0, .string mt, .slice (some ⟨gx, 0, none⟩) 30 cx, .int .i64 5, .int .i64 0, .int .i64 0, .string mt, .slice (some ⟨gx, 0, none⟩) 30 cx] 25)) := (Fr.refl W).alloc _
        obtain ⟨k9, k7, k8⟩ := J11.keep hfa Hjb.out
        have hrx := HCR.out.fr LV (hf.step hfa)
        refine HK.out _ _ ⟨f0, f1, true, f3, f4, f5, f6, f7, f8, f9, f10, (.agg #[.int .i64 5, .int .i64 0, .int .i64 0, .string mt, .slice (some ⟨gx, 0, none⟩) 30 cx]), (.agg #[.int .i64 5, .int .i64 0, .int .i64 0, .string mt, .slice (some ⟨gx, 0, none⟩) 30 cx]), (.slice (some ⟨W.heap.size, 0, none⟩) 2 2), u46, u47, u48, u49, u10, u11, by simp, (by simp only [Act.put, List.setIfInBounds_toArray, List.set_cons_zero, List.set_cons_succ]), hf.step hfa, fun _ => rfl, fun _ => rfl, Hj4.out, fun h => (by rw [D9.out] at h; cases h), Hjp.out, Hjm.out, Hjn.out, Hj3.out, Hj6.out, Hju.out, fun h9 => ⟨fun _ => ⟨_, _, rfl, row_two_em (at_new rfl) Hxl.out Hxl.out hrx hrx⟩, (k9 h9).2⟩, k7, k8⟩
      · intro listed a W hl hd hJ K hK
        obtain ⟨f0, f1, f2, f3, f4, f5, f6, f7, f8, f9, f10, u43, u44, u45, u46, u47, u48, u49, u10, u11, e1, e2, hf, j0, j1, j4, jo, jp, jm, jn, j3, j6, ju, jb⟩ := hJ
        subst e1
        simp only [Act.put, List.setIfInBounds_toArray, List.set_cons_zero, List.set_cons_succ] at e2
        subst e2
        simp at hl
        simp [Region.binds] at hd
        have d2 : f2 = true := by cases f2 with | false => simp at hd | true => rfl
        clear hd
        have d9 : f9 = false := by cases f9 with | false => rfl | true => rw [hl] at jo; simp at jo
        have d10 : f10 = false := by cases f10 with | false => rfl | true => rw [d9] at jp; simp at jp
        have D9 := Lib.hid d9; clear d9
        have D10 := Lib.hid d10; clear d10
        have D2 := Lib.hid d2; clear d2
        have HL := Lib.hid hl; clear hl
        have HK := Lib.hid hK; clear hK
        have Hj0 := Lib.hid j0; clear j0
        have Hj1 := Lib.hid j1; clear j1
        have Hj4 := Lib.hid j4; clear j4
        have Hjo := Lib.hid jo; clear jo
        have Hjp := Lib.hid jp; clear jp
        have Hjm := Lib.hid jm; clear jm
        have Hjn := Lib.hid jn; clear jn
        have Hj3 := Lib.hid j3; clear j3
        have Hj6 := Lib.hid j6; clear j6
        have Hju := Lib.hid ju; clear ju
        have Hjb := Lib.hid jb; clear jb
        obtain ⟨g9, c9, e9, hr9⟩ := (Hjb.out.1 D9.out).1 D2.out
        subst e9
        go_simp
        refine (HProq.out g9 c9 _ _ hr9).mono ?_
        rintro e wa ⟨rfl, hfa⟩
        unfold iv
        go_wp2_with fail
        have kk := J11.keep hfa Hjb.out
        refine HK.out _ _ ⟨f0, f1, f2, true, f4, f5, f6, f7, f8, f9, f10, u43, u44, (.slice (some ⟨g9, 0, none⟩) 2 c9), (.agg #[.int .i64 1, .float .f64 (fw q), .string mt, .slice none 0 0]), u47, u48, u49, u10, u11, by simp, (by simp only [Act.put, List.setIfInBounds_toArray, List.set_cons_zero, List.set_cons_succ]), hf.step hfa, Hj0.out, Hj1.out, Hj4.out, fun h => (by rw [D9.out] at h; cases h), Hjp.out, Hjm.out, Hjn.out, fun _ => rfl, Hj6.out, Hju.out, kk⟩
      · intro listed a W hl hd hJ K hK
        obtain ⟨f0, f1, f2, f3, f4, f5, f6, f7, f8, f9, f10, u43, u44, u45, u46, u47, u48, u49, u10, u11, e1, e2, hf, j0, j1, j4, jo, jp, jm, jn, j3, j6, ju, jb⟩ := hJ
        subst e1
        simp only [Act.put, List.setIfInBounds_toArray, List.set_cons_zero, List.set_cons_succ] at e2
        subst e2
        simp at hl
        simp [Region.binds] at hd
        clear hd
        have d9 : f9 = false := by cases f9 with | false => rfl | true => rw [hl] at jo; simp at jo
        have d10 : f10 = false := by cases f10 with | false => rfl | true => rw [d9] at jp; simp at jp
        have D9 := Lib.hid d9; clear d9
        have D10 := Lib.hid d10; clear d10
        have HL := Lib.hid hl; clear hl
        have HK := Lib.hid hK; clear hK
        have Hj0 := Lib.hid j0; clear j0
        have Hj1 := Lib.hid j1; clear j1
        have Hj4 := Lib.hid j4; clear j4
        have Hjo := Lib.hid jo; clear jo
        have Hjp := Lib.hid jp; clear jp
        have Hjm := Lib.hid jm; clear jm
        have Hjn := Lib.hid jn; clear jn
        have Hj3 := Lib.hid j3; clear j3
        have Hj6 := Lib.hid j6; clear j6
        have Hju := Lib.hid ju; clear ju
        have Hjb := Lib.hid jb; clear jb
        have hbx := (hf.block _ lXC).trans HCX.out
        obtain ⟨cX, zX⟩ := obj_rules2 hbx
        have lXW := block_lt hbx
        clear hbx
        go_simp
        refine HK.out _ _ ⟨f0, f1, f2, f3, true, f5, f6, f7, f8, f9, f10, u43, u44, u45, u46, (.agg #[.int .i64 5, .int .i64 0, .int .i64 0, .string mt, .slice (some ⟨gx, 0, none⟩) 30 cx]), u48, u49, u10, u11, by simp, (by simp only [Act.put, List.setIfInBounds_toArray, List.set_cons_zero, List.set_cons_succ]), hf, Hj0.out, Hj1.out, fun _ => rfl, fun h => (by rw [D9.out] at h; cases h), Hjp.out, fun _ => rfl, Hjn.out, Hj3.out, Hj6.out, Hju.out, Hjb.out⟩
      · intro listed a W hl hd hJ K hK
        obtain ⟨f0, f1, f2, f3, f4, f5, f6, f7, f8, f9, f10, u43, u44, u45, u46, u47, u48, u49, u10, u11, e1, e2, hf, j0, j1, j4, jo, jp, jm, jn, j3, j6, ju, jb⟩ := hJ
        subst e1
        simp only [Act.put, List.setIfInBounds_toArray, List.set_cons_zero, List.set_cons_succ] at e2
        subst e2
        simp at hl
        simp [Region.binds] at hd
        have d4 : f4 = true := by cases f4 with | false => simp at hd | true => rfl
        clear hd
        have d9 : f9 = false := by cases f9 with | false => rfl | true => rw [hl] at jo; simp at jo
        have d10 : f10 = false := by cases f10 with | false => rfl | true => rw [d9] at jp; simp at jp
        have D9 := Lib.hid d9; clear d9
        have D10 := Lib.hid d10; clear d10
        obtain rfl := j4 d4
        have D4 := Lib.hid d4; clear d4
        have HL := Lib.hid hl; clear hl
        have HK := Lib.hid hK; clear hK
        have Hj0 := Lib.hid j0; clear j0
        have Hj1 := Lib.hid j1; clear j1
        have Hj4 := Lib.hid j4; clear j4
        have Hjo := Lib.hid jo; clear jo
        have Hjp := Lib.hid jp; clear jp
        have Hjm := Lib.hid jm; clear jm
        have Hjn := Lib.hid jn; clear jn
        have Hj3 := Lib.hid j3; clear j3
        have Hj6 := Lib.hid j6; clear j6
        have Hju := Lib.hid ju; clear ju
        have Hjb := Lib.hid jb; clear jb
        go_simp
        have hfa : Fr W (W.alloc (.cells #[.int .i64 5, .int .i64 0, .int .i64 0, .string mt, .slice (some ⟨gx, 0, none⟩) 30 cx] 25)) := (Fr.refl W).alloc _
        obtain ⟨k9, k7, k8⟩ := J11.keep hfa Hjb.out
        have hrx := HCR.out.fr LV (hf.step hfa)
        refine HK.out _ _ ⟨f0, f1, f2, f3, f4, true, f6, f7, f8, f9, f10, u43, u44, u45, u46, (.agg #[.int .i64 5, .int .i64 0, .int .i64 0, .string mt, .slice (some ⟨gx, 0, none⟩) 30 cx]), (.slice (some ⟨W.heap.size, 0, none⟩) 1 1), u49, u10, u11, by simp, (by simp only [Act.put, List.setIfInBounds_toArray, List.set_cons_zero, List.set_cons_succ]), hf.step hfa, Hj0.out, Hj1.out, fun _ => rfl, fun h => (by rw [D9.out] at h; cases h), Hjp.out, fun _ => D4.out, fun _ => rfl, Hj3.out, Hj6.out, Hju.out, fun h9 => ⟨(k9 h9).1, fun _ => ⟨_, _, rfl, row_one_em (at_new rfl) Hxl.out hrx⟩⟩, k7, k8⟩
      · intro listed a W hl hd hJ K hK
        obtain ⟨f0, f1, f2, f3, f4, f5, f6, f7, f8, f9, f10, u43, u44, u45, u46, u47, u48, u49, u10, u11, e1, e2, hf, j0, j1, j4, jo, jp, jm, jn, j3, j6, ju, jb⟩ := hJ
        subst e1
        simp only [Act.put, List.setIfInBounds_toArray, List.set_cons_zero, List.set_cons_succ] at e2
        subst e2
        simp at hl
        simp [Region.binds] at hd
        have d3 : f3 = true := by cases f3 with | false => simp at hd | true => rfl
        have d5 : f5 = true := by cases f5 with | false => simp at hd | true => rfl
        clear hd
        have d9 : f9 = false := by cases f9 with | false => rfl | true => rw [hl] at jo; simp at jo
        have d10 : f10 = false := by cases f10 with | false => rfl | true => rw [d9] at jp; simp at jp
        have D9 := Lib.hid d9; clear d9
        have D10 := Lib.hid d10; clear d10
        obtain rfl := j3 d3
        have D3 := Lib.hid d3; clear d3
        have D5 := Lib.hid d5; clear d5
        have HL := Lib.hid hl; clear hl
        have HK := Lib.hid hK; clear hK
        have Hj0 := Lib.hid j0; clear j0
        have Hj1 := Lib.hid j1; clear j1
        have Hj4 := Lib.hid j4; clear j4
        have Hjo := Lib.hid jo; clear jo
        have Hjp := Lib.hid jp; clear jp
        have Hjm := Lib.hid jm; clear jm
        have Hjn := Lib.hid jn; clear jn
        have Hj3 := Lib.hid j3; clear j3
        have Hj6 := Lib.hid j6; clear j6
        have Hju := Lib.hid ju; clear ju
        have Hjb := Lib.hid jb; clear jb
        obtain ⟨g9, c9, e9, hr9⟩ := (Hjb.out.1 D9.out).2 D5.out
        subst e9
        go_simp
        refine (HSq.out g9 c9 _ _ hr9 (HTC.out.fr hf)).mono ?_
        rintro e wa ⟨rfl, hfa⟩
        unfold iv
        go_wp2_with fail
        have kk := J11.keep hfa Hjb.out
        refine HK.out _ _ ⟨f0, f1, f2, f3, f4, f5, true, f7, f8, f9, f10, u43, u44, u45, (.agg #[.int .i64 1, .float .f64 (fw q), .string mt, .slice none 0 0]), u47, (.slice (some ⟨g9, 0, none⟩) 1 c9), (.agg #[.int .i64 1, .float .f64 (fw q), .string mt, .slice none 0 0]), u10, u11, by simp, (by simp only [Act.put, List.setIfInBounds_toArray, List.set_cons_zero, List.set_cons_succ]), hf.step hfa, Hj0.out, Hj1.out, Hj4.out, fun h => (by rw [D9.out] at h; cases h), Hjp.out, Hjm.out, fun _ => D5.out, fun _ => rfl, fun _ => rfl, Hju.out, kk⟩
      · intro listed a W hl hd hJ K hK
        obtain ⟨f0, f1, f2, f3, f4, f5, f6, f7, f8, f9, f10, u43, u44, u45, u46, u47, u48, u49, u10, u11, e1, e2, hf, j0, j1, j4, jo, jp, jm, jn, j3, j6, ju, jb⟩ := hJ
        subst e1
        simp only [Act.put, List.setIfInBounds_toArray, List.set_cons_zero, List.set_cons_succ] at e2
        subst e2
        simp at hl
        simp [Region.binds] at hd
        clear hd
        have d9 : f9 = false := by cases f9 with | false => rfl | true => rw [hl] at jo; simp at jo
        have d10 : f10 = false := by cases f10 with | false => rfl | true => rw [d9] at jp; simp at jp
        have D9 := Lib.hid d9; clear d9
        have D10 := Lib.hid d10; clear d10
        have HL := Lib.hid hl; clear hl
        have HK := Lib.hid hK; clear hK
        have Hj0 := Lib.hid j0; clear j0
        have Hj1 := Lib.hid j1; clear j1
        have Hj4 := Lib.hid j4; clear j4
        have Hjo := Lib.hid jo; clear jo
        have Hjp := Lib.hid jp; clear jp
        have Hjm := Lib.hid jm; clear jm
        have Hjn := Lib.hid jn; clear jn
        have Hj3 := Lib.hid j3; clear j3
        have Hj6 := Lib.hid j6; clear j6
        have Hju := Lib.hid ju; clear ju
        have Hjb := Lib.hid jb; clear jb
        go_simp
        have hfa : Fr W (W.alloc (.cells #[.int .i64 0, .float .f64 0, .string mt, .slice none 0 0] 30)) := (Fr.refl W).alloc _
        have hpn : ∀ b, b < W.heap.size → Value.pointer (some ⟨W.heap.size, 0, none⟩) ≠ .pointer (some ⟨b, 0, none⟩) := fun b hb e => by
          injection e with e
          injection e with e
          injection e with e
          omega
        obtain ⟨k9, _, k8⟩ := J11.keep hfa Hjb.out
        have k8' := Hjb.out.2.2
        refine HK.out _ _ ⟨f0, f1, f2, f3, f4, f5, f6, true, f8, f9, f10, u43, u44, u45, u46, u47, u48, u49, (.pointer (some ⟨W.heap.size, 0, none⟩)), u11, by simp, (by simp only [Act.put, List.setIfInBounds_toArray, List.set_cons_zero, List.set_cons_succ]), hf.step hfa, Hj0.out, Hj1.out, Hj4.out, fun h => (by rw [D9.out] at h; cases h), Hjp.out, Hjm.out, Hjn.out, Hj3.out, Hj6.out, fun h => (by cases h), k9, fun _ => ⟨_, _, rfl, hf.size, rfl, at_new rfl, fun h => (by rw [D9.out] at h; cases h)⟩, fun h => (by obtain ⟨b, cs, k1, k2, k3, k4, k5, _⟩ := k8' h; exact ⟨b, cs, k1, k2, k3, k4.fr hfa, k5, hpn b (block_lt k4)⟩)⟩
      · intro listed a W hl hd hJ K hK
        obtain ⟨f0, f1, f2, f3, f4, f5, f6, f7, f8, f9, f10, u43, u44, u45, u46, u47, u48, u49, u10, u11, e1, e2, hf, j0, j1, j4, jo, jp, jm, jn, j3, j6, ju, jb⟩ := hJ
        subst e1
        simp only [Act.put, List.setIfInBounds_toArray, List.set_cons_zero, List.set_cons_succ] at e2
        subst e2
        simp at hl
        simp [Region.binds] at hd
        clear hd
        have d9 : f9 = false := by cases f9 with | false => rfl | true => rw [hl] at jo; simp at jo
        have d10 : f10 = false := by cases f10 with | false => rfl | true => rw [d9] at jp; simp at jp
        have D9 := Lib.hid d9; clear d9
        have D10 := Lib.hid d10; clear d10
        have HL := Lib.hid hl; clear hl
        have HK := Lib.hid hK; clear hK
        have Hj0 := Lib.hid j0; clear j0
        have Hj1 := Lib.hid j1; clear j1
        have Hj4 := Lib.hid j4; clear j4
        have Hjo := Lib.hid jo; clear jo
        have Hjp := Lib.hid jp; clear jp
        have Hjm := Lib.hid jm; clear jm
        have Hjn := Lib.hid jn; clear jn
        have Hj3 := Lib.hid j3; clear j3
        have Hj6 := Lib.hid j6; clear j6
        have Hju := Lib.hid ju; clear ju
        have Hjb := Lib.hid jb; clear jb
        go_simp
        have hfa : Fr W (W.alloc (.cells #[.int .i64 0, .float .f64 0, .string mt, .slice none 0 0] 30)) := (Fr.refl W).alloc _
        have hpn : u10 ≠ .pointer (some ⟨W.heap.size, 0, none⟩) := fun e => by
          cases f7 with
          | false => rw [Hju.out rfl] at e; cases e
          | true =>
            obtain ⟨b', cs, e', _, _, hbx, _⟩ := Hjb.out.2.1 rfl
            rw [e'] at e
            injection e with e
            injection e with e
            injection e with e
            have := block_lt hbx
            omega
        obtain ⟨k9, k7, _⟩ := J11.keep hfa Hjb.out
        refine HK.out _ _ ⟨f0, f1, f2, f3, f4, f5, f6, f7, true, f9, f10, u43, u44, u45, u46, u47, u48, u49, u10, (.pointer (some ⟨W.heap.size, 0, none⟩)), by simp, (by simp only [Act.put, List.setIfInBounds_toArray, List.set_cons_zero, List.set_cons_succ]), hf.step hfa, Hj0.out, Hj1.out, Hj4.out, fun h => (by rw [D9.out] at h; cases h), Hjp.out, Hjm.out, Hjn.out, Hj3.out, Hj6.out, Hju.out, k9, k7, fun _ => ⟨_, _, rfl, hf.size, rfl, at_new rfl, fun h => (by rw [D10.out] at h; cases h), hpn⟩⟩
      · intro listed a W hl hd hJ K hK
        obtain ⟨f0, f1, f2, f3, f4, f5, f6, f7, f8, f9, f10, u43, u44, u45, u46, u47, u48, u49, u10, u11, e1, e2, hf, j0, j1, j4, jo, jp, jm, jn, j3, j6, ju, jb⟩ := hJ
        subst e1
        simp only [Act.put, List.setIfInBounds_toArray, List.set_cons_zero, List.set_cons_succ] at e2
        subst e2
        simp at hl
        simp [Region.binds] at hd
        have d0 : f0 = true := by cases f0 with | false => simp at hd | true => rfl
        have d1 : f1 = true := by cases f1 with | false => simp at hd | true => rfl
        have d2 : f2 = true := by cases f2 with | false => simp at hd | true => rfl
        have d3 : f3 = true := by cases f3 with | false => simp at hd | true => rfl
        have d6 : f6 = true := by cases f6 with | false => simp at hd | true => rfl
        have d7 : f7 = true := by cases f7 with | false => simp at hd | true => rfl
        have d8 : f8 = true := by cases f8 with | false => simp at hd | true => rfl
        clear hd
        have d10 : f10 = false := by cases f10 with | false => rfl | true => rw [hl] at jp; simp at jp
        have D10 := Lib.hid d10; clear d10
        obtain rfl := j0 d0
        obtain rfl := j1 d1
        obtain rfl := j3 d3
        obtain rfl := j6 d6
        have D0 := Lib.hid d0; clear d0
        have D1 := Lib.hid d1; clear d1
        have D2 := Lib.hid d2; clear d2
        have D3 := Lib.hid d3; clear d3
        have D6 := Lib.hid d6; clear d6
        have D7 := Lib.hid d7; clear d7
        have D8 := Lib.hid d8; clear d8
        have HL := Lib.hid hl; clear hl
        have HK := Lib.hid hK; clear hK
        have Hj0 := Lib.hid j0; clear j0
        have Hj1 := Lib.hid j1; clear j1
        have Hj4 := Lib.hid j4; clear j4
        have Hjo := Lib.hid jo; clear jo
        have Hjp := Lib.hid jp; clear jp
        have Hjm := Lib.hid jm; clear jm
        have Hjn := Lib.hid jn; clear jn
        have Hj3 := Lib.hid j3; clear j3
        have Hj6 := Lib.hid j6; clear j6
        have Hju := Lib.hid ju; clear ju
        have Hjb := Lib.hid jb; clear jb
        obtain ⟨b, cs, e7, hb, hcs, hbx, _⟩ := Hjb.out.2.1 D7.out
        subst e7
        obtain ⟨b', cs', e8, hb', hcs', hbx', hq', hne'⟩ := Hjb.out.2.2 D8.out
        subst e8
        have hne : b' ≠ b := fun e => hne' (by rw [e])
        have HE := Lib.hid (⟨hb', hcs', hbx', hq', hne', hne⟩ : _ ∧ _ ∧ _ ∧ _ ∧ _ ∧ _)
        clear hb' hcs' hbx' hq' hne' hne
        obtain ⟨cX, zX⟩ := obj_rules2 hbx
        have lb := block_lt hbx
        have HBb := Lib.hid hbx; clear hbx
        obtain ⟨x0, x1, x2, x3, ecs⟩ := arr4 hcs
        subst ecs
        have y0 := cX 0
        have y1 := cX 1
        have y2 := cX 2
        have y3 := cX 3
        simp at y0 y1 y2 y3
        go_simp
        refine HK.out _ _ ⟨f0, f1, f2, f3, f4, f5, f6, f7, f8, true, f10, (.agg #[.int .i64 5, .int .i64 0, .int .i64 0, .string mt, .slice (some ⟨gx, 0, none⟩) 30 cx]), (.agg #[.int .i64 5, .int .i64 0, .int .i64 0, .string mt, .slice (some ⟨gx, 0, none⟩) 30 cx]), u45, (.agg #[.int .i64 1, .float .f64 (fw q), .string mt, .slice none 0 0]), u47, u48, (.agg #[.int .i64 1, .float .f64 (fw q), .string mt, .slice none 0 0]), (.pointer (some ⟨b, 0, none⟩)), (.pointer (some ⟨b', 0, none⟩)), by simp, (by simp only [Act.put, List.setIfInBounds_toArray, List.set_cons_zero, List.set_cons_succ]), Fr.set hb (Fr.set hb (Fr.set hb (Fr.set hb hf _) _) _) _, fun _ => rfl, fun _ => rfl, Hj4.out, fun _ => by simp [D0.out, D1.out, D2.out, D3.out, Hjm.out (Hjn.out D6.out), Hjn.out D6.out, D6.out, D7.out, D8.out], fun _ => rfl, Hjm.out, Hjn.out, fun _ => rfl, fun _ => rfl, Hju.out, fun h => (by cases h), fun _ => ⟨b, _, rfl, hb, rfl, boxed_set4 HBb.out rfl _ _ _ _, fun _ => rfl⟩, fun _ => ⟨b', cs', rfl, HE.out.1, HE.out.2.1, (((HE.out.2.2.1.far HE.out.2.2.2.2.2).far HE.out.2.2.2.2.2).far HE.out.2.2.2.2.2).far HE.out.2.2.2.2.2, HE.out.2.2.2.1, HE.out.2.2.2.2.1⟩⟩
      · intro listed a W hl hd hJ K hK
        obtain ⟨f0, f1, f2, f3, f4, f5, f6, f7, f8, f9, f10, u43, u44, u45, u46, u47, u48, u49, u10, u11, e1, e2, hf, j0, j1, j4, jo, jp, jm, jn, j3, j6, ju, jb⟩ := hJ
        subst e1
        simp only [Act.put, List.setIfInBounds_toArray, List.set_cons_zero, List.set_cons_succ] at e2
        subst e2
        simp at hl
        simp [Region.binds] at hd
        have d0 : f0 = true := by cases f0 with | false => simp at hd | true => rfl
        have d1 : f1 = true := by cases f1 with | false => simp at hd | true => rfl
        have d2 : f2 = true := by cases f2 with | false => simp at hd | true => rfl
        have d3 : f3 = true := by cases f3 with | false => simp at hd | true => rfl
        have d4 : f4 = true := by cases f4 with | false => simp at hd | true => rfl
        have d5 : f5 = true := by cases f5 with | false => simp at hd | true => rfl
        have d6 : f6 = true := by cases f6 with | false => simp at hd | true => rfl
        have d7 : f7 = true := by cases f7 with | false => simp at hd | true => rfl
        have d8 : f8 = true := by cases f8 with | false => simp at hd | true => rfl
        have d9 : f9 = true := by cases f9 with | false => simp at hd | true => rfl
        clear hd
        obtain rfl := j0 d0
        obtain rfl := j1 d1
        obtain rfl := j4 d4
        obtain rfl := j3 d3
        obtain rfl := j6 d6
        have D0 := Lib.hid d0; clear d0
        have D1 := Lib.hid d1; clear d1
        have D2 := Lib.hid d2; clear d2
        have D3 := Lib.hid d3; clear d3
        have D4 := Lib.hid d4; clear d4
        have D5 := Lib.hid d5; clear d5
        have D6 := Lib.hid d6; clear d6
        have D7 := Lib.hid d7; clear d7
        have D8 := Lib.hid d8; clear d8
        have D9 := Lib.hid d9; clear d9
        have HL := Lib.hid hl; clear hl
        have HK := Lib.hid hK; clear hK
        have Hj0 := Lib.hid j0; clear j0
        have Hj1 := Lib.hid j1; clear j1
        have Hj4 := Lib.hid j4; clear j4
        have Hjo := Lib.hid jo; clear jo
        have Hjp := Lib.hid jp; clear jp
        have Hjm := Lib.hid jm; clear jm
        have Hjn := Lib.hid jn; clear jn
        have Hj3 := Lib.hid j3; clear j3
        have Hj6 := Lib.hid j6; clear j6
        have Hju := Lib.hid ju; clear ju
        have Hjb := Lib.hid jb; clear jb
        obtain ⟨b', cs', e7, hb', hcs', hbx', hq'⟩ := Hjb.out.2.1 D7.out
        subst e7
        obtain ⟨b, cs, e8, hb, hcs, hbx, _, hne'⟩ := Hjb.out.2.2 D8.out
        subst e8
        have hne : b' ≠ b := fun e => hne' (by rw [e])
        have HE := Lib.hid (⟨hb', hcs', hbx', hq', hne', hne⟩ : _ ∧ _ ∧ _ ∧ _ ∧ _ ∧ _)
        clear hb' hcs' hbx' hq' hne' hne
        obtain ⟨cX, zX⟩ := obj_rules2 hbx
        have lb := block_lt hbx
        have HBb := Lib.hid hbx; clear hbx
        obtain ⟨x0, x1, x2, x3, ecs⟩ := arr4 hcs
        subst ecs
        have y0 := cX 0
        have y1 := cX 1
        have y2 := cX 2
        have y3 := cX 3
        simp at y0 y1 y2 y3
        go_simp
        refine HK.out _ _ ⟨f0, f1, f2, f3, f4, f5, f6, f7, f8, f9, true, (.agg #[.int .i64 5, .int .i64 0, .int .i64 0, .string mt, .slice (some ⟨gx, 0, none⟩) 30 cx]), (.agg #[.int .i64 5, .int .i64 0, .int .i64 0, .string mt, .slice (some ⟨gx, 0, none⟩) 30 cx]), u45, (.agg #[.int .i64 1, .float .f64 (fw q), .string mt, .slice none 0 0]), (.agg #[.int .i64 5, .int .i64 0, .int .i64 0, .string mt, .slice (some ⟨gx, 0, none⟩) 30 cx]), u48, (.agg #[.int .i64 1, .float .f64 (fw q), .string mt, .slice none 0 0]), (.pointer (some ⟨b', 0, none⟩)), (.pointer (some ⟨b, 0, none⟩)), by simp, (by simp only [Act.put, List.setIfInBounds_toArray, List.set_cons_zero, List.set_cons_succ]), Fr.set hb (Fr.set hb (Fr.set hb (Fr.set hb hf _) _) _) _, fun _ => rfl, fun _ => rfl, fun _ => rfl, Hjo.out, fun _ => D9.out, Hjm.out, Hjn.out, fun _ => rfl, fun _ => rfl, Hju.out, fun h => (by rw [D9.out] at h; cases h), fun _ => ⟨b', cs', rfl, HE.out.1, HE.out.2.1, (((HE.out.2.2.1.far HE.out.2.2.2.2.2).far HE.out.2.2.2.2.2).far HE.out.2.2.2.2.2).far HE.out.2.2.2.2.2, HE.out.2.2.2.1⟩, fun _ => ⟨b, _, rfl, hb, rfl, boxed_set4 HBb.out rfl _ _ _ _, fun _ => rfl, HE.out.2.2.2.2.1⟩⟩
    case done =>
      intro listed a W11 hall hJ
      obtain ⟨f0, f1, f2, f3, f4, f5, f6, f7, f8, f9, f10, u43, u44, u45, u46, u47, u48, u49, u10, u11, e1, e2, hf, j0, j1, j4, jo, jp, jm, jn, j3, j6, ju, jb⟩ := hJ
      subst e1
      have d7 : f7 = true := by have := hall 7 (by simp); simpa using this
      have d8 : f8 = true := by have := hall 8 (by simp); simpa using this
      have d9 : f9 = true := by have := hall 9 (by simp); simpa using this
      have d10 : f10 = true := by have := hall 10 (by simp); simpa using this
      obtain ⟨b10, cs10, e10, hb10, _, hx10, hq10⟩ := jb.2.1 d7
      obtain ⟨b11, cs11, e11, hb11, _, hx11, hq11, _⟩ := jb.2.2 d8
      subst e10 e11
      rw [hq10 d9] at hx10
      rw [hq11 d10] at hx11
      simp only [Act.put, List.setIfInBounds_toArray, List.set_cons_zero, List.set_cons_succ] at e2
      subst e2
      have lb8C : b8 < wC.heap.size := Nat.lt_of_lt_of_le lb8 HFC.out.size
      have lb9 := block_lt HB9.out
      have hne9 : w10.heap.size ≠ b8 := by have := hf10.size; simp at this; omega
      have hne10 : b10 ≠ b8 := by omega
      have hne11 : b11 ≠ b8 := by omega
      have hx8 := HB8.out.fr (HFC.out.step hf)
      have hx9 := HB9.out.fr hf
      obtain ⟨cs, ⟨g8, cg8, rfl, hrow⟩, hcs⟩ := (HR8.out.fr LI (HFC.out.step hf)).at (i := 0) (by simp)
      have r0 := hcs 0 _ rfl
      obtain ⟨ds, hE, hds⟩ := hrow.at (i := 0) (by simp)
      have hE' : ds = iN d := hE
      subst hE'
      have q0 := hds 0 _ rfl
      have q1 := hds 1 _ rfl
      have q2 := hds 2 _ rfl
      have q3 := hds 3 _ rfl
      simp at r0 q0 q1 q2 q3
      obtain ⟨c8, z8⟩ := obj_rules2 hx8
      obtain ⟨c9, z9⟩ := obj_rules2 hx9
      obtain ⟨c10, z10⟩ := obj_rules2 hx10
      obtain ⟨c11, z11⟩ := obj_rules2 hx11
      have l8 := block_lt hx8
      have l9 := block_lt hx9
      have l10 := block_lt hx10
      have l11 := block_lt hx11
      have hdd := Hdd.out
      have hqq := Hqq.out
      have HFE := Lib.hid (show Fr w W11 from (((HF.out.step HFB.out).step HF9.out).step HFC.out).step hf)
      have HB8w := Lib.hid (show w.heap.size ≤ b8 from Nat.le_trans (HF.out.step HFB.out).size hb8)
      clear j0 j1 j4 jo jp jm jn j3 j6 ju jb hall d7 d8 d9 d10 hx8 hx9 hx10 hx11 hf hrow hcs hds hE hq10 hq11
      go_wp2_with fail
      go_ret
      exact ⟨rfl, Fr.set HB8w.out (Fr.set HB8w.out (Fr.set HB8w.out (Fr.set HB8w.out HFE.out _) _) _) _⟩
end Go.Proofs.YtlhonpmpchkkfaaGreatDoor
