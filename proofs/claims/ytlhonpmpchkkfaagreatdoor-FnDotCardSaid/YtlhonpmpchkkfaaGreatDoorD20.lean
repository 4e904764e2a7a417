import Derived.Test.YtlhonpmpchkkfaaGreatDoorGN
set_option linter.unusedSimpArgs false
set_option linter.unusedVariables false
/- sumproduct of two columns. -/
namespace Go.Proofs.YtlhonpmpchkkfaaGreatDoor
open Go.RowKit
open Fl
open Ieee (double)
@[go_sem] theorem Tryz.nilFl (W : World) : (binOp .eql 74 (.slice none 0 0) (.slice none 0 0)).run Tryz.prog W = .ok (.bool true) W := by kernel_rfl
@[go_sem] theorem Tryz.notNilFl (W : World) (g i n m : Nat) : (binOp .eql 74 (.slice (some ⟨g, i, none⟩) n m) (.slice none 0 0)).run Tryz.prog W = .ok (.bool false) W := by kernel_rfl
theorem one_word : (4607182418800017408 : Nat) = fw 1 := by decide
theorem made_float (n : Nat) {c : Array Value} (h : c.toList = (madeCells #[Value.float .f64 0] n).toList) : ∀ i, i < n → c[i]? = some (.float .f64 0) := by
  intro i hi
  rw [← Array.getElem?_toList, h]
  simp [madeCells, hi, Nat.mod_one]
set_option maxRecDepth 100000 in
set_option maxHeartbeats 8000000 in
theorem sumproduct_two (f : Value) (R1 cap1 p1 q1 R2 cap2 p2 q2 : Nat) (xs ys : List Int) (w : World) (p b1 b2 : Nat) (S1 S2 : Nat → Prop)
    (hL : LS w p [b1, b2] [.agg #[.string mt, .float .f64 0, .string mt, .slice none 0 0, .slice (some ⟨R1, 0, none⟩) xs.length cap1, .bool false, .string mt, .int .u8 4, .pointer (some ⟨p1, 0, none⟩), .pointer (some ⟨q1, 0, none⟩)],
      .agg #[.string mt, .float .f64 0, .string mt, .slice none 0 0, .slice (some ⟨R2, 0, none⟩) ys.length cap2, .bool false, .string mt, .int .u8 4, .pointer (some ⟨p2, 0, none⟩), .pointer (some ⟨q2, 0, none⟩)]])
    (hr1 : RowOf (ESl (ENum fN) 10) 1 w S1 R1 0 (one xs)) (hr2 : RowOf (ESl (ENum fN) 10) 1 w S2 R2 0 (one ys)) (h0 : 0 < xs.length) (h30 : xs.length ≤ 30) (hxy : ys.length = xs.length) (hx : ∀ x ∈ xs, x.natAbs ≤ 99) (hy : ∀ y ∈ ys, y.natAbs ≤ 99) :
    Calls Tryz.prog 43 #[f, .pointer (some ⟨p, 0, none⟩)] w fun e w' => e = .returned (fa 1 (fw (dotN xs ys xs.length)) mt mt) ∧ Fr w w' := by
  have hb53 : ∀ {l : List Int}, (∀ x ∈ l, x.natAbs ≤ 99) → ∀ x ∈ l, x.natAbs < 2 ^ 53 := fun h x hx => by have := h x hx; omega
  have HN1 := Lib.hid (fun W h => ToList_mat R1 cap1 p1 q1 (one xs) W S1 h (fit_one h0 h30 (hb53 hx)))
  have HN2 := Lib.hid (fun W h => ToList_mat R2 cap2 p2 q2 (one ys) W S2 h (fit_one (by omega) (by omega) (hb53 hy)))
  rw [one_len, flat_ones] at HN1 HN2
  have HL := Lib.hid hL; clear hL
  have HR1 := Lib.hid hr1; clear hr1
  have HR2 := Lib.hid hr2; clear hr2
  have HX := Lib.hid hx; clear hx
  have HY := Lib.hid hy; clear hy
  have LF := lie_sl (lie_num fN) 10
  obtain ⟨i0, hi, hz0, hz1, hz2⟩ := info_parts Tryz.infoFl
  obtain ⟨n, hn⟩ : ∃ n, n = xs.length := ⟨_, rfl⟩
  rw [← hn] at h0 h30 hxy HL HN1 ⊢
  rw [hxy] at HL HN2
  have Hn := Lib.hid hn
  have Hxy := Lib.hid hxy
  clear hn hxy hb53
  have c1 := (HL.out.el 0 b1 _ rfl rfl).2.2
  have c2 := (HL.out.el 1 b2 _ rfl rfl).2.2
  have hbs1 := (HL.out.hb b1 (by simp)).2
  have hbs2 := (HL.out.hb b2 (by simp)).2
  go_enter Tryz.func43, Tryz.ntmps43
  go_wp2_with fail
  refine (Front_any _ p b1 [b2] _ (HL.out.fr (by repeat (first | (with_reducible exact Fr.refl _) | ((with_reducible refine Fr.set ?_ ?_ _); focus (simp; done)) | (with_reducible refine Fr.alloc ?_ _) | (with_reducible refine Fr.drew ?_) | (with_reducible refine Fr.step ?_ (by assumption)))))).mono ?_
  rintro e w1 ⟨rfl, rfl⟩
  obtain ⟨wA, hA⟩ : ∃ wA, wA = w.alloc (.cells zFa 54) := ⟨_, rfl⟩
  have hfA : Fr w wA := by rw [hA]; exact (Fr.refl w).alloc _
  have hsA : wA.heap.size = w.heap.size + 1 := by rw [hA]; simp
  have hres : wA.heap[w.heap.size]? = some (.cells zFa 54 (0, 0)) := by rw [hA]; exact at_new rfl
  have HA := Lib.hid hA; clear hA
  go_wp2
  go_loopw [5, 6, 7, 8, 9] (fun ty m res sum arg W => sum = .float .f64 0 ∧ ((ty = .int .u8 0 ∧ m = .int .i64 0 ∧ res = .slice none 0 0 ∧ arg = .pointer (some ⟨b1, 0, none⟩)) ∨
    (ty = .int .u8 4 ∧ m = .int .i64 n ∧ ∃ gr, res = .slice (some ⟨gr, 0, none⟩) n n ∧ wA.heap.size ≤ gr ∧ ((arg = .pointer (some ⟨b2, 0, none⟩) ∧ PR (fun i => xs.getD i 0) n gr wA W) ∨ (arg = .pointer none ∧ PR (fun i => xs.getD i 0 * ys.getD i 0) n gr wA W)))) ∧ Fr wA W)
    (fun ty _ _ _ arg _ => match arg with | .pointer none => 0 | _ => (match ty with | .int _ 0 => 2 | _ => 1))
  case atStart => exact ⟨rfl, .inl ⟨rfl, rfl, rfl, rfl⟩, by rw [HA.out]; exact Fr.refl _⟩
  case round =>
    obtain ⟨rfl, ⟨rfl, rfl, rfl, rfl⟩ | ⟨rfl, rfl, gr, rfl, hgr, ⟨rfl, hP⟩ | ⟨rfl, hP⟩⟩, hf⟩ := hrel
    · have hfw := hfA.step hf
      have hsz := hf.size
      have c1r := (hfw.cells.1 _ 3 hbs1).trans c1
      clear c1 c2
      go_wp2_with fail
      refine (HN1.out _ ((HR1.out.fr LF hfw).fr LF ((Fr.refl _).alloc _))).mono ?_
      rintro e w2 ⟨ga, capA, rfl, _, hA1, hf2⟩
      have HA1 := Lib.hid hA1; clear hA1
      have hsz2 := hf2.size
      simp at hsz2
      have hfA2 : Fr wA w2 := (hf.alloc _).step hf2
      go_wp2_with (at_make; refine wpList_make_full _ rfl _ _ 74 rfl w2.heap.size 27 i0 (.float .f64 0) 1 Tryz.underlying74 hi hz0 hz1 _ _ _ _ n rfl rfl rfl rfl (by rw [hz2]; omega) (by simp only [maxLen]; omega) (Nat.le_refl _) ?_)
      intro w3 hown3 hgrow3
      obtain ⟨c, hb3, hc3, hl3⟩ := own_full hown3
      have hf3 : Fr w2 w3 := (Fr.refl w2).grown hgrow3 (fun q h => by cases h)
      have hz3 := made_float n hl3
      have HP3 := Lib.hid (show PR (fun i => if i < 0 then 1 else 0) n w2.heap.size w3 w3 from ⟨fun _ _ _ => rfl, Nat.le_refl _, c, hb3, by omega, fun i hi => ⟨0, hz3 i hi, FI_zero⟩⟩)
      have lgr : w2.heap.size < w3.heap.size := block_lt hb3
      have hfA3 := hfA2.step hf3
      clear hown3 hgrow3 hb3 hc3 hl3 hz3
      go_wp2
      go_loopw [66] (fun i W => ∃ q : Nat, q ≤ n ∧ i = .int .i64 q ∧ PR (fun i => if i < q then 1 else 0) n w2.heap.size w3 W ∧ Fr wA W) (fun i _ => n - (intOf i).toNat)
      case atStart => exact ⟨0, Nat.zero_le _, rfl, HP3.out, hfA3⟩
      case round =>
        obtain ⟨q, hq, rfl, hP, hfq⟩ := hrel
        have HP := Lib.hid hP; clear hP
        by_cases hqn : q < n
        · obtain ⟨k1, k2, c, k3, k4, k5⟩ := HP.out
          obtain ⟨z, hz, _⟩ := k5 q hqn
          obtain ⟨cG, zG⟩ := obj_rules2 k3
          have hy : wr.cell? ⟨w2.heap.size, q, none⟩ = some (.float .f64 z) := (cG q).trans hz
          have lgw := block_lt k3
          have hq0 : (0 : Int) ≤ (q : Int) := Int.natCast_nonneg _
          have hq1 : (q : Int) < (n : Int) := by omega
          clear k1 k2 k4 k5 cG hz
          have HK := Lib.hid k3; clear k3
          go_wp2
          go_roundw
          case rel =>
            refine ⟨q + 1, by omega, by simp, PR.congr (HP.out.next (z := 4607182418800017408) (s := 1) hqn ?_ ?_ ?_ ?_) ?_, ?_⟩
            · intro b hb hne
              exact far_eq rfl _ _ hne
            · have := HP.out.2.1; simp; exact this
            · intro c hc
              exact heap_setCell_same _ _ q _ _ _ hc
            · rw [one_word]; exact FI.own (by decide)
            · intro i hi
              by_cases h : i = q
              · subst h; simp
              · have e : (i < q + 1) = (i < q) := by simp; omega
                simp only [h, if_false, e]
            · exact Fr.set (by show wA.heap.size ≤ w2.heap.size; omega) hfq _
          case measure => simp [intOf]; omega
        · have hqe : n = q := by omega
          subst hqe
          have HM := Lib.hid (PR.congr (f' := fun i => if i < 0 then 1 * xs.getD i 0 else (1 : Int)) (show PR _ n w2.heap.size wr wr from ⟨fun _ _ _ => rfl, Nat.le_refl _, HP.out.2.2⟩) (fun i hi => by simp [hi]))
          have hP1 := HP.out.1
          have hP2 := HP.out.2.1
          have HRW := Lib.hid (show ∀ W : World, (∀ b, b < wr.heap.size → b ≠ w2.heap.size → W.heap[b]? = wr.heap[b]?) → wr.heap.size ≤ W.heap.size → RowOf (ENum fN) 10 W _ ga 0 xs from fun W h1 h2 => HA1.out.same (lie_num fN) (fun b _ hb => (h1 b (by omega) (by omega)).trans ((hP1 b (by omega) (by omega)).trans (hf3.block b hb))))
          have HLA := Lib.hid (show ga < wr.heap.size by have := HA1.out.lt; omega)
          have hfM := hfq
          have hMA := hfM.size
          have HB := Lib.hid (show ∀ b, b < wA.heap.size → b ≠ w2.heap.size → wr.heap[b]? = wA.heap[b]? from fun b hb _ => hfM.block b hb)
          obtain ⟨wM, eM⟩ : ∃ wM, wM = wr := ⟨_, rfl⟩
          subst eM
          clear hP1 hP2
          go_wp2
          go_loopw [80] (fun i W => ∃ k : Nat, k ≤ n ∧ i = .int .i64 k ∧ PR (fun i => if i < k then 1 * xs.getD i 0 else 1) n w2.heap.size wM W ∧ Fr wA W) (fun i _ => n - (intOf i).toNat)
          case atStart => exact ⟨0, Nat.zero_le _, rfl, HM.out, hfM⟩
          case round =>
            obtain ⟨k, hk, rfl, hP, hfk⟩ := hrel
            have HP := Lib.hid hP; clear hP
            by_cases hkn : k < n
            · have hkz : k < xs.length := by rw [← Hn.out]; exact hkn
              obtain ⟨k1, k2, c, k3, k4, k5⟩ := HP.out
              obtain ⟨z, hz, hfz⟩ := k5 k hkn
              obtain ⟨cs, hE, hcs⟩ := (HRW.out wr k1 k2).at hkz
              have hE' : cs = fN xs[k] := hE
              subst hE'
              have hzk : xs.getD k 0 = xs[k] := by rw [List.getD_eq_getElem?_getD, List.getElem?_eq_getElem hkz]; rfl
              have hxb := HX.out _ (List.getElem_mem hkz)
              have hFb : ((1 : Int)).natAbs ≤ 99 := by decide
              have hmb := mul_small hFb hxb
              simp only [Nat.lt_irrefl, if_false] at hfz
              obtain ⟨m, hm, hmul⟩ := run_mul hfz (FI.own (n := xs[k]) (by omega)) (by omega)
              rw [← hzk] at hm
              have Hm := Lib.hid hm
              have d0 := hcs 0 _ rfl
              have d1 := hcs 1 _ rfl
              have d2 := hcs 2 _ rfl
              have d3 := hcs 3 _ rfl
              have d4 := hcs 4 _ rfl
              have d5 := hcs 5 _ rfl
              have d6 := hcs 6 _ rfl
              have d7 := hcs 7 _ rfl
              have d8 := hcs 8 _ rfl
              have d9 := hcs 9 _ rfl
              simp only [Nat.zero_add, Nat.add_zero] at d0 d1 d2 d3 d4 d5 d6 d7 d8 d9
              have HT := Lib.hid (fun W => ToNumber_num xs[k] W (by omega))
              clear hm hfz hE hcs hFb hmb hxb hzk k1 k2 k4 k5
              generalize xs[k] = x at *
              generalize fw x = fx at *
              have lgr := block_lt k3
              have HK := Lib.hid k3
              clear k3
              have lgA : ga < wr.heap.size := by have := HLA.out; have := HP.out.2.1; omega
              have hk0 : (0 : Int) ≤ (k : Int) := Int.natCast_nonneg _
              have hk1 : (k : Int) < (n : Int) := by omega
              go_wp2_with fail
              refine (HT.out _).mono ?_
              rintro e w6 ⟨rfl, hf6⟩
              have hsz6 := hf6.size
              simp at hsz6
              have hgr6 : w6.heap[w2.heap.size]? = some (.cells c 27 (0, 0)) := (hf6.block _ (by simp; omega)).trans (at_old HK.out)
              obtain ⟨cG, zG⟩ := obj_rules2 hgr6
              have hz6 : w6.cell? ⟨w2.heap.size, k, none⟩ = some (.float .f64 z) := (cG k).trans hz
              have lg6 := block_lt hgr6
              have HG6 := Lib.hid hgr6
              have HF6 := Lib.hid hf6
              clear cG hgr6 hz hf6 d0 d1 d2 d3 d4 d5 d6 d7 d8 d9
              unfold fa
              go_wp2
              go_region
              go_wp2
              go_roundw
              case rel =>
                refine ⟨k + 1, by omega, by simp, PR.congr (HP.out.next (z := m) hkn ?_ ?_ ?_ Hm.out) ?_, ?_⟩
                · intro b hb hne
                  have h1 := HP.out.2.1
                  refine drew_eq ((heap_alloc_old _ _ (by simp; omega)).trans (far_eq ?_ _ _ hne))
                  exact (HF6.out.block b (by simp; omega)).trans (heap_alloc_old _ _ (by omega))
                · have h1 := HP.out.2.1
                  simp; omega
                · intro c' hc'
                  exact drew_eq (at_old (heap_setCell_same _ _ k _ _ _ ((HF6.out.block _ (by simp; omega)).trans (at_old hc'))))
                · intro i hi
                  by_cases h : i = k
                  · subst h; simp
                  · have e : (i < k + 1) = (i < k) := by simp; omega
                    simp only [h, if_false, e]
                · exact (((hfk.alloc _).step HF6.out).set (by have := hfA2.size; omega) _).alloc _ |>.drew
              case measure => simp [intOf]; omega
            · have hkn2 : n = k := by omega
              subst hkn2
              have HQ := Lib.hid (show PR (fun i => xs.getD i 0) n w2.heap.size wA wr from ⟨fun b hb hne => (HP.out.1 b (by omega) hne).trans (HB.out b hb hne), hfk.size, (HP.out.congr (f' := fun i => xs.getD i 0) (fun i hi => by simp [hi])).2.2⟩)
              have hwk := hfA.step hfk
              go_wp2_with fail
              refine (Next_any _ p 0 [b1, b2] _ (HL.out.fr hwk) (by simp)).mono ?_
              rintro e w7 ⟨rfl, rfl⟩
              go_wp2
              go_roundw
              case rel => exact ⟨rfl, .inr ⟨rfl, rfl, w2.heap.size, rfl, by have := hfA2.size; omega, .inl ⟨rfl, HQ.out⟩⟩, hfk⟩
              case measure => simp [ptrAt]
    · have hfw := hfA.step hf
      have hsz := hf.size
      have c2r := (hfw.cells.1 _ 3 hbs2).trans c2
      have HP0 := Lib.hid hP
      have lgr0 : gr < wr.heap.size := by obtain ⟨_, _, c, h, _⟩ := hP; exact block_lt h
      clear c1 c2 hP
      go_wp2_with fail
      refine (HN2.out _ ((HR2.out.fr LF hfw).fr LF ((Fr.refl _).alloc _))).mono ?_
      rintro e w2 ⟨ga, capA, rfl, _, hA1, hf2⟩
      have HA1 := Lib.hid hA1; clear hA1
      have hsz2 := hf2.size
      simp at hsz2
      have hfM : Fr wA w2 := (hf.alloc _).step hf2
      have HM := Lib.hid (PR.congr (f' := fun i => if i < 0 then xs.getD i 0 * ys.getD i 0 else xs.getD i 0) (show PR _ n gr w2 w2 from ⟨fun _ _ _ => rfl, Nat.le_refl _, by
        obtain ⟨_, _, c, h, h4, h5⟩ := HP0.out
        exact ⟨c, (hf2.block _ (by simp; omega)).trans (at_old h), h4, h5⟩⟩) (fun i hi => by simp))
      have HRW := Lib.hid (show ∀ W : World, (∀ b, b < w2.heap.size → b ≠ gr → W.heap[b]? = w2.heap[b]?) → w2.heap.size ≤ W.heap.size → RowOf (ENum fN) 10 W _ ga 0 ys from fun W h1 h2 => HA1.out.same (lie_num fN) (fun b (hb0 : (wr.alloc _).heap.size ≤ b) hb => h1 b hb (by simp at hb0; omega)))
      have HLA := Lib.hid (show ga < w2.heap.size from HA1.out.lt)
      have HB := Lib.hid (show ∀ b, b < wA.heap.size → b ≠ gr → w2.heap[b]? = wA.heap[b]? from fun b hb _ => hfM.block b hb)
      obtain ⟨wM, eM⟩ : ∃ wM, wM = w2 := ⟨_, rfl⟩
      subst eM
      obtain ⟨w0, e0⟩ : ∃ w0, w0 = wr := ⟨_, rfl⟩
      subst e0
      go_wp2
      go_loopw [80] (fun i W => ∃ k : Nat, k ≤ n ∧ i = .int .i64 k ∧ PR (fun i => if i < k then xs.getD i 0 * ys.getD i 0 else xs.getD i 0) n gr wM W ∧ Fr wA W) (fun i _ => n - (intOf i).toNat)
      case atStart => exact ⟨0, Nat.zero_le _, rfl, HM.out, hfM⟩
      case round =>
        obtain ⟨k, hk, rfl, hP, hfk⟩ := hrel
        have HP := Lib.hid hP; clear hP
        by_cases hkn : k < n
        · have hkz : k < ys.length := by rw [Hxy.out]; exact hkn
          obtain ⟨k1, k2, c, k3, k4, k5⟩ := HP.out
          obtain ⟨z, hz, hfz⟩ := k5 k hkn
          obtain ⟨cs, hE, hcs⟩ := (HRW.out wr k1 k2).at hkz
          have hE' : cs = fN ys[k] := hE
          subst hE'
          have hzk : ys.getD k 0 = ys[k] := by rw [List.getD_eq_getElem?_getD, List.getElem?_eq_getElem hkz]; rfl
          have hxb := HY.out _ (List.getElem_mem hkz)
          have hFb : (xs.getD k 0).natAbs ≤ 99 := by exact getD_small HX.out k
          have hmb := mul_small hFb hxb
          simp only [Nat.lt_irrefl, if_false] at hfz
          obtain ⟨m, hm, hmul⟩ := run_mul hfz (FI.own (n := ys[k]) (by omega)) (by omega)
          rw [← hzk] at hm
          have Hm := Lib.hid hm
          have d0 := hcs 0 _ rfl
          have d1 := hcs 1 _ rfl
          have d2 := hcs 2 _ rfl
          have d3 := hcs 3 _ rfl
          have d4 := hcs 4 _ rfl
          have d5 := hcs 5 _ rfl
          have d6 := hcs 6 _ rfl
          have d7 := hcs 7 _ rfl
          have d8 := hcs 8 _ rfl
          have d9 := hcs 9 _ rfl
          simp only [Nat.zero_add, Nat.add_zero] at d0 d1 d2 d3 d4 d5 d6 d7 d8 d9
          have HT := Lib.hid (fun W => ToNumber_num ys[k] W (by omega))
          clear hm hfz hE hcs hFb hmb hxb hzk k1 k2 k4 k5
          generalize ys[k] = x at *
          generalize fw x = fx at *
          have lgr := block_lt k3
          have HK := Lib.hid k3
          clear k3
          have lgA : ga < wr.heap.size := by have := HLA.out; have := HP.out.2.1; omega
          have hk0 : (0 : Int) ≤ (k : Int) := Int.natCast_nonneg _
          have hk1 : (k : Int) < (n : Int) := by omega
          go_wp2_with fail
          refine (HT.out _).mono ?_
          rintro e w6 ⟨rfl, hf6⟩
          have hsz6 := hf6.size
          simp at hsz6
          have hgr6 : w6.heap[gr]? = some (.cells c 27 (0, 0)) := (hf6.block _ (by simp; omega)).trans (at_old HK.out)
          obtain ⟨cG, zG⟩ := obj_rules2 hgr6
          have hz6 : w6.cell? ⟨gr, k, none⟩ = some (.float .f64 z) := (cG k).trans hz
          have lg6 := block_lt hgr6
          have HG6 := Lib.hid hgr6
          have HF6 := Lib.hid hf6
          clear cG hgr6 hz hf6 d0 d1 d2 d3 d4 d5 d6 d7 d8 d9
          unfold fa
          go_wp2
          go_region
          go_wp2
          go_roundw
          case rel =>
            refine ⟨k + 1, by omega, by simp, PR.congr (HP.out.next (z := m) hkn ?_ ?_ ?_ Hm.out) ?_, ?_⟩
            · intro b hb hne
              have h1 := HP.out.2.1
              refine drew_eq ((heap_alloc_old _ _ (by simp; omega)).trans (far_eq ?_ _ _ hne))
              exact (HF6.out.block b (by simp; omega)).trans (heap_alloc_old _ _ (by omega))
            · have h1 := HP.out.2.1
              simp; omega
            · intro c' hc'
              exact drew_eq (at_old (heap_setCell_same _ _ k _ _ _ ((HF6.out.block _ (by simp; omega)).trans (at_old hc'))))
            · intro i hi
              by_cases h : i = k
              · subst h; simp
              · have e : (i < k + 1) = (i < k) := by simp; omega
                simp only [h, if_false, e]
            · exact (((hfk.alloc _).step HF6.out).set (by exact hgr) _).alloc _ |>.drew
          case measure => simp [intOf]; omega
        · have hkn2 : n = k := by omega
          subst hkn2
          have HQ := Lib.hid (show PR (fun i => xs.getD i 0 * ys.getD i 0) n gr wA wr from ⟨fun b hb hne => (HP.out.1 b (by omega) hne).trans (HB.out b hb hne), hfk.size, (HP.out.congr (f' := fun i => xs.getD i 0 * ys.getD i 0) (fun i hi => by simp [hi])).2.2⟩)
          have hwk := hfA.step hfk
          go_wp2_with fail
          refine (Next_any _ p 1 [b1, b2] _ (HL.out.fr hwk) (by simp)).mono ?_
          rintro e w7 ⟨rfl, rfl⟩
          go_wp2
          go_roundw
          case rel => exact ⟨rfl, .inr ⟨rfl, rfl, gr, rfl, by exact hgr, .inr ⟨rfl, HQ.out⟩⟩, hfk⟩
          case measure => simp [ptrAt]
    · have hfw := hfA.step hf
      have hszf := hf.size
      have HP := Lib.hid hP; clear hP
      obtain ⟨w0, e0⟩ : ∃ w0, w0 = wr := ⟨_, rfl⟩
      subst e0
      go_wp2
      go_loopw [8, 109] (fun sum i W => ∃ k : Nat, k ≤ n ∧ i = .int .i64 k ∧ (∃ z, FI z (dotN xs ys k) ∧ sum = .float .f64 z) ∧ Fr w0 W) (fun _ i _ => n - (intOf i).toNat)
      case atStart => exact ⟨0, Nat.zero_le _, rfl, ⟨0, FI_zero, rfl⟩, Fr.refl _⟩
      case round =>
        obtain ⟨k, hk, rfl, ⟨z, hz, rfl⟩, hfk⟩ := hrel
        by_cases hlt : k < n
        · obtain ⟨k1, k2, c, k3, k4, k5⟩ := HP.out
          obtain ⟨y, hy, hfy⟩ := k5 k hlt
          have y0 : wr.cell? ⟨gr, k, none⟩ = some (.float .f64 y) := (hfk.cells.1 _ k (block_lt k3)).trans (((obj_rules2 k3).1 k).trans hy)
          have lg : gr < wr.heap.size := by have := block_lt k3; have := hfk.size; omega
          have hdb := dotN_bound HX.out HY.out k
          have hmb := mul_small (getD_small HX.out k) (getD_small HY.out k)
          obtain ⟨z', hz', hadd⟩ := run_add (a := dotN xs ys k) (b := xs.getD k 0 * ys.getD k 0) hz hfy (by omega)
          have Hz' := Lib.hid hz'
          have hk0 : (0 : Int) ≤ (k : Int) := Int.natCast_nonneg _
          have hk1 : (k : Int) < (n : Int) := by omega
          clear hz hz' hfy hy k1 k2 k3 k4 k5 hdb hmb
          go_wp2
          go_roundw
          case rel => exact ⟨k + 1, by omega, by simp, ⟨z', Hz'.out, rfl⟩, hfk⟩
          case measure => simp [intOf]; omega
        · have hkn : n = k := by omega
          subst hkn
          have Hz := Lib.hid hz; clear hz
          have hszk := hfk.size
          have hresk := (hfk.block w.heap.size (by omega)).trans ((hf.block _ (by omega)).trans hres)
          have Hrk := Lib.hid hresk; clear hresk
          go_wp2_with fail
          refine (newNumber_fi z _ _ Hz.out).mono ?_
          rintro e w9 ⟨rfl, hf9⟩
          have hsz9 := hf9.size
          have l9 : w.heap.size < w9.heap.size := by omega
          have hres9 := (hf9.block w.heap.size (by omega)).trans Hrk.out
          obtain ⟨k9, z9⟩ := obj_rules2 hres9
          unfold zFa at k9
          unfold fa
          clear hres9
          go_wp2
          exact bodyPost_ret (v := .agg #[.string mt, .float .f64 (fw (dotN xs ys n)), .string mt, .slice none 0 0, .slice none 0 0, .bool false, .string mt, .int .u8 1, .pointer none, .pointer none]) (by simp [results, Tryz.results43, go_sem, sv, mt, *]) rfl ⟨rfl, by
            (iterate 10 refine Fr.set (by simp) ?_ _)
            exact (hfw.step hfk).step hf9⟩
end Go.Proofs.YtlhonpmpchkkfaaGreatDoor
