import Derived.Test.YtlhonpmpchkkfaaGreatDoorGM
set_option linter.unusedSimpArgs false
set_option linter.unusedVariables false
/- MMULT of a row with a column. -/
namespace Go.Proofs.YtlhonpmpchkkfaaGreatDoor
open Go.RowKit
open Fl
open Ieee (double)
/-- The sum of the first products. -/
def dotN (xs ys : List Int) : Nat → Int
  | 0 => 0
  | k + 1 => dotN xs ys k + xs.getD k 0 * ys.getD k 0
theorem getD_small {xs : List Int} (h : ∀ x ∈ xs, x.natAbs ≤ 99) (k : Nat) : (xs.getD k 0).natAbs ≤ 99 := by
  rw [List.getD_eq_getElem?_getD]
  by_cases hk : k < xs.length
  · rw [List.getElem?_eq_getElem hk]; exact h _ (List.getElem_mem hk)
  · rw [List.getElem?_eq_none (by omega)]; simp
theorem mul_small {x y : Int} (hx : x.natAbs ≤ 99) (hy : y.natAbs ≤ 99) : (x * y).natAbs ≤ 9801 := by
  rw [Int.natAbs_mul]
  calc x.natAbs * y.natAbs ≤ 99 * 99 := Nat.mul_le_mul hx hy
    _ = 9801 := rfl
theorem dotN_bound {xs ys : List Int} (hx : ∀ x ∈ xs, x.natAbs ≤ 99) (hy : ∀ y ∈ ys, y.natAbs ≤ 99) : ∀ k, (dotN xs ys k).natAbs ≤ k * 9801
  | 0 => by simp [dotN]
  | k + 1 => by
    have h1 := dotN_bound hx hy k
    have h2 := mul_small (getD_small hx k) (getD_small hy k)
    simp only [dotN]
    omega
/-- What the floats' product and sum yield for whole numbers. -/
theorem run_mul {x y : Nat} {a b : Int} (hx : FI x a) (hy : FI y b) (hab : (a * b).natAbs < 2 ^ 53) :
    ∃ z, FI z (a * b) ∧ ∀ w, (binOp .mul 27 (.float .f64 x) (.float .f64 y)).run Tryz.prog w = .ok (.float .f64 z) w := by
  obtain ⟨z, h1, h2⟩ := FI.mul hx hy hab
  exact ⟨z, h2, fun w => run_float_arith w .mul 27 .f64 _ _ _ (show floatBits .mul .f64 _ _ = some _ from h1)⟩
theorem run_add {x y : Nat} {a b : Int} (hx : FI x a) (hy : FI y b) (hab : (a + b).natAbs < 2 ^ 53) :
    ∃ z, FI z (a + b) ∧ ∀ w, (binOp .add 27 (.float .f64 x) (.float .f64 y)).run Tryz.prog w = .ok (.float .f64 z) w := by
  obtain ⟨z, h1, h2⟩ := FI.add hx hy hab
  exact ⟨z, h2, fun w => run_float_arith w .add 27 .f64 _ _ _ (show floatBits .add .f64 _ _ = some _ from h1)⟩
theorem at_one {ys : List Int} {i : Nat} (h : i < ys.length) : (one ys)[i]'(by rw [one_len]; exact h) = [ys[i]] := by simp [one]
set_option maxRecDepth 100000 in
set_option maxHeartbeats 8000000 in
theorem MMULTm (f : Value) (R1 cap1 p1 q1 R2 cap2 p2 q2 : Nat) (xs ys : List Int) (w : World) (p b1 b2 : Nat) (S1 S2 : Nat → Prop)
    (hL : LS w p [b1, b2] [.agg #[.string mt, .float .f64 0, .string mt, .slice none 0 0, .slice (some ⟨R1, 0, none⟩) 1 cap1, .bool false, .string mt, .int .u8 4, .pointer (some ⟨p1, 0, none⟩), .pointer (some ⟨q1, 0, none⟩)],
      .agg #[.string mt, .float .f64 0, .string mt, .slice none 0 0, .slice (some ⟨R2, 0, none⟩) ys.length cap2, .bool false, .string mt, .int .u8 4, .pointer (some ⟨p2, 0, none⟩), .pointer (some ⟨q2, 0, none⟩)]])
    (hr1 : RowOf (ESl (ENum fN) 10) 1 w S1 R1 0 [xs]) (hr2 : RowOf (ESl (ENum fN) 10) 1 w S2 R2 0 (one ys)) (h0 : 0 < xs.length) (h30 : xs.length ≤ 30) (hxy : ys.length = xs.length) (hx : ∀ x ∈ xs, x.natAbs ≤ 99) (hy : ∀ y ∈ ys, y.natAbs ≤ 99) :
    Calls Tryz.prog 23 #[f, .pointer (some ⟨p, 0, none⟩)] w fun e w' => ∃ gm cm, e = .returned (.agg #[.string mt, .float .f64 0, .string mt, .slice none 0 0, .slice (some ⟨gm, 0, none⟩) 1 cm, .bool false, .string mt, .int .u8 4, .pointer none, .pointer none]) ∧
      RowOf (ESl (ENum fN) 10) 1 w' (fun b => w.heap.size ≤ b) gm 0 [[dotN xs ys xs.length]] ∧ Fr w w' := by
  have hb53 : ∀ {l : List Int}, (∀ x ∈ l, x.natAbs ≤ 99) → ∀ x ∈ l, x.natAbs < 2 ^ 53 := fun h x hx => by have := h x hx; omega
  have HN1 := Lib.hid (fun W h => numMatrix_any R1 cap1 p1 q1 [xs] W S1 h (fit_row h0 h30 (hb53 hx)))
  have HN2 := Lib.hid (fun W h => numMatrix_any R2 cap2 p2 q2 (one ys) W S2 h (fit_one (by omega) (by omega) (hb53 hy)))
  rw [one_len] at HN2
  rw [show ([xs] : List (List Int)).length = 1 from rfl] at HN1
  have HL := Lib.hid hL; clear hL
  have HR1 := Lib.hid hr1; clear hr1
  have HR2 := Lib.hid hr2; clear hr2
  have HX := Lib.hid hx; clear hx
  have HY := Lib.hid hy; clear hy
  have LF := lie_sl (lie_num fN) 10
  have LL := lie_sl (lie_num flN) 1
  obtain ⟨i0, hi, hz0, hz1, hz2⟩ := info_parts Tryz.infoFl
  obtain ⟨i1, hj, hy0, hy1, hy2⟩ := info_parts Tryz.infoFls
  obtain ⟨n, hn⟩ : ∃ n, n = xs.length := ⟨_, rfl⟩
  rw [← hn] at h0 h30 hxy ⊢
  rw [hxy] at HL HN2
  have Hn := Lib.hid hn
  have Hxy := Lib.hid hxy
  clear hn hxy hb53
  have c1 := (HL.out.el 0 b1 _ rfl rfl).2.2
  have c2 := (HL.out.el 1 b2 _ rfl rfl).2.2
  have hbs1 := (HL.out.hb b1 (by simp)).2
  have hbs2 := (HL.out.hb b2 (by simp)).2
  go_enter Tryz.func23, Tryz.ntmps23
  go_wp2_with fail
  refine (Len_any _ p [b1, b2] _ (HL.out.fr (by repeat (first | (with_reducible exact Fr.refl _) | ((with_reducible refine Fr.set ?_ ?_ _); focus (simp; done)) | (with_reducible refine Fr.alloc ?_ _) | (with_reducible refine Fr.drew ?_) | (with_reducible refine Fr.step ?_ (by assumption)))))).mono ?_
  rintro e w1 ⟨rfl, rfl⟩
  go_wp2_with fail
  refine (Front_any _ p b1 [b2] _ (HL.out.fr (by repeat (first | (with_reducible exact Fr.refl _) | ((with_reducible refine Fr.set ?_ ?_ _); focus (simp; done)) | (with_reducible refine Fr.alloc ?_ _) | (with_reducible refine Fr.drew ?_) | (with_reducible refine Fr.step ?_ (by assumption)))))).mono ?_
  rintro e w1 ⟨rfl, rfl⟩
  go_wp2_with fail
  refine (Back_last _ p [b1, b2] _ (HL.out.fr (by repeat (first | (with_reducible exact Fr.refl _) | ((with_reducible refine Fr.set ?_ ?_ _); focus (simp; done)) | (with_reducible refine Fr.alloc ?_ _) | (with_reducible refine Fr.drew ?_) | (with_reducible refine Fr.step ?_ (by assumption))))) (by simp)).mono ?_
  rintro e w1 ⟨rfl, rfl⟩
  go_wp2_with fail
  refine (HN1.out _ (HR1.out.fr LF (by repeat (first | (with_reducible exact Fr.refl _) | ((with_reducible refine Fr.set ?_ ?_ _); focus (simp; done)) | (with_reducible refine Fr.alloc ?_ _) | (with_reducible refine Fr.drew ?_) | (with_reducible refine Fr.step ?_ (by assumption)))))).mono ?_
  rintro e w2 ⟨g1, d1, rfl, hA1, hf2⟩
  have hfw2 : Fr w w2 := (by repeat (first | (with_reducible exact Fr.refl _) | ((with_reducible refine Fr.set ?_ ?_ _); focus (simp; done)) | (with_reducible refine Fr.alloc ?_ _) | (with_reducible refine Fr.drew ?_) | (with_reducible refine Fr.step ?_ (by assumption))))
  have hsz2 := hf2.size
  simp at hsz2
  obtain ⟨k2, z2⟩ := hf2.cells
  simp at k2 z2
  have l20 : w.heap.size < w2.heap.size := by omega
  have l21 : w.heap.size + 1 < w2.heap.size := by omega
  have l22 : w.heap.size + 1 + 1 < w2.heap.size := by omega
  have HA1 := Lib.hid hA1; clear hA1
  go_wp2_with fail
  refine (HN2.out _ (HR2.out.fr LF (by repeat (first | (with_reducible exact Fr.refl _) | ((with_reducible refine Fr.set ?_ ?_ _); focus (simp; done)) | (with_reducible refine Fr.alloc ?_ _) | (with_reducible refine Fr.drew ?_) | (with_reducible refine Fr.step ?_ (by assumption)))))).mono ?_
  rintro e w3 ⟨g2, d2, rfl, hA2, hf3⟩
  have hfw3 : Fr w w3 := (by repeat (first | (with_reducible exact Fr.refl _) | ((with_reducible refine Fr.set ?_ ?_ _); focus (simp; done)) | (with_reducible refine Fr.alloc ?_ _) | (with_reducible refine Fr.drew ?_) | (with_reducible refine Fr.step ?_ (by assumption))))
  have hsz3 := hf3.size
  simp at hsz3
  obtain ⟨k3, z3⟩ := hf3.cells
  simp at k3 z3
  have l30 : w.heap.size < w3.heap.size := by omega
  have HA2 := Lib.hid hA2; clear hA2
  have hA13 := HA1.out.fr LL (Fr.step ((Fr.refl w2).alloc (.cells #[.string mt, .float .f64 0, .string mt, .slice none 0 0, .slice none 0 0, .bool false, .string mt, .int .u8 0, .pointer none, .pointer none] 54)) hf3)
  obtain ⟨cs1, ⟨h1, e1, rfl, hh1⟩, hc1⟩ := hA13.at (i := 0) (by simp)
  have a0 := hc1 0 _ rfl
  simp only [Nat.zero_add, Nat.add_zero, Nat.mul_one, Nat.zero_mul] at a0
  have lg1 := hA13.lt
  have lh1 := hh1.lt
  obtain ⟨cs2, ⟨h2, e2, rfl, hh2⟩, hc2⟩ := HA2.out.at (i := 0) (by rw [one_len, Hxy.out]; exact h0)
  have b0 := hc2 0 _ rfl
  simp only [Nat.zero_add, Nat.add_zero, Nat.mul_one, Nat.zero_mul] at b0
  have lg2 := HA2.out.lt
  have hl0 : (one ys)[0]'(by rw [one_len, Hxy.out]; exact h0) = [ys[0]'(by rw [Hxy.out]; exact h0)] := at_one _
  rw [hl0] at b0
  simp only [List.length_cons, List.length_nil, Nat.zero_add] at b0
  rw [show ([xs] : List (List Int))[0] = xs from rfl] at a0 hh1
  rw [← Hn.out] at a0
  have Hh1 := Lib.hid hh1
  clear hA13 hc1 hc2 hh1 hh2 hl0
  have hn0 : (0 : Int) < (n : Int) := by omega
  go_wp2
  go_region
  go_wp2
  go_loopw [13, 17] (fun v i W => ((i = .int .i64 0 ∧ v = .slice none 0 0) ∨ (i = .int .i64 1 ∧ ∃ gN cN hN cH z, v = .slice (some ⟨gN, 0, none⟩) 1 cN ∧ FI z (dotN xs ys n) ∧ W.cell? ⟨gN, 0, none⟩ = some (.slice (some ⟨hN, 0, none⟩) 1 cH) ∧ W.cell? ⟨hN, 0, none⟩ = some (.float .f64 z))) ∧ Fr w3 W) (fun _ i _ => 1 - (intOf i).toNat)
  case atStart => exact ⟨.inl ⟨rfl, rfl⟩, (by repeat (first | (with_reducible exact Fr.refl _) | ((with_reducible refine Fr.set ?_ ?_ _); focus (simp; done)) | (with_reducible refine Fr.alloc ?_ _) | (with_reducible refine Fr.drew ?_) | (with_reducible refine Fr.step ?_ (by assumption))))⟩
  case round =>
    obtain ⟨⟨rfl, rfl⟩ | ⟨rfl, gN, cN, hN, cH, z, rfl, hz, m0, m1⟩, hf⟩ := hrel
    · have hsz := hf.size
      go_wp2_with (at_builtin; refine wpList_append_lies _ rfl _ _ 71 rfl w3.heap.size 74 i1 (.slice none 0 0) 1 24 Tryz.underlying71 hj hy0 hy1 hy2 rfl (by decide) _ _ _ rfl (World.ownsRow_nil _ _ _ _) ⟨wr.heap.size + 1, 0, none⟩ 1 1 [.slice (some ⟨wr.heap.size, 0, none⟩) 0 0] rfl rfl (news_new rfl (by simp)) (oneCells rfl) (by decide) (by simp [maxLen]) (by omega) (by simp; omega) _ rfl ?_)
      intro gN cN w5 hown5 hgrow5 hat5 hlt5
      have hf5 : Fr w3 w5 := ((hf.alloc _).alloc _).grown hgrow5 (fun q h => by cases h)
      have hsz5 := hf5.size
      have n5 : w5.cell? ⟨gN, 0, none⟩ = some (.slice (some ⟨wr.heap.size, 0, none⟩) 0 0) := hown5.cellAt 0 (by omega)
      have z5 : ∀ j, w5.frozen? ⟨gN, j, none⟩ = false := hown5.frozenAt
      have hgn5 : w3.heap.size ≤ gN := (hown5.lt gN rfl).1
      have a05 := (hf5.cells.1 _ _ lg1).trans a0
      have lg15 : g1 < w5.heap.size := by omega
      clear hgrow5 hat5 hown5
      go_wp2
      obtain ⟨wj, ej⟩ : ∃ wj, wj = w5.alloc (.cells #[] 27) := ⟨_, rfl⟩
      have hrow : wj.ownsRow w3.heap.size 27 1 (.slice (some ⟨w5.heap.size, 0, none⟩) 0 0) 0 [] := by rw [ej]; exact World.ownsRow_made w5 #[] 0 hsz5 (by simp [maxLen]) rfl
      have hfj : Fr w3 wj := by rw [ej]; exact hf5.alloc _
      have nj : wj.cell? ⟨gN, 0, none⟩ = some (.slice (some ⟨wr.heap.size, 0, none⟩) 0 0) := by rw [ej]; exact (World.cell?_alloc_lt _ _ _ hlt5).trans n5
      have zj : ∀ j, wj.frozen? ⟨gN, j, none⟩ = false := by intro j; rw [ej]; exact (World.frozen?_alloc_old _ _ _ (Nat.ne_of_lt hlt5)).trans (z5 j)
      have lj : gN < wj.heap.size ∧ gN ≠ w5.heap.size := by rw [ej]; simp; omega
      rw [← ej]
      clear ej
      obtain ⟨lj1, lj2⟩ := lj
      go_loopw [15, 18] (fun row j W => ((j = .int .i64 0 ∧ row = .slice (some ⟨w5.heap.size, 0, none⟩) 0 0 ∧ W = wj) ∨ (j = .int .i64 1 ∧ ∃ hN cH z, FI z (dotN xs ys n) ∧ W.cell? ⟨gN, 0, none⟩ = some (.slice (some ⟨hN, 0, none⟩) 1 cH) ∧ W.cell? ⟨hN, 0, none⟩ = some (.float .f64 z))) ∧ Fr w3 W) (fun _ j _ => 1 - (intOf j).toNat)
      case atStart => exact ⟨.inl ⟨rfl, rfl, rfl⟩, hfj⟩
      case round =>
        obtain ⟨⟨rfl, rfl, rfl⟩ | ⟨rfl, hN, cH, z, hz, m0, m1⟩, hfi⟩ := hrel
        · obtain ⟨w6, e6⟩ : ∃ w6, w6 = wr := ⟨_, rfl⟩
          subst e6
          go_wp2
          go_loopw [16, 19] (fun sum i W => ∃ k : Nat, k ≤ n ∧ i = .int .i64 k ∧ (∃ z, FI z (dotN xs ys k) ∧ sum = .float .f64 z) ∧ Fr w6 W) (fun _ i _ => n - (intOf i).toNat)
          case atStart => exact ⟨0, Nat.zero_le _, rfl, ⟨0, FI_zero, rfl⟩, Fr.refl _⟩
          case round =>
            obtain ⟨k, hk, rfl, ⟨z, hz, rfl⟩, hfk⟩ := hrel
            by_cases hlt : k < n
            · have hkx : k < xs.length := by rw [← Hn.out]; exact hlt
              have hky : k < ys.length := by rw [Hxy.out]; exact hlt
              have hf3k := hfi.step hfk
              obtain ⟨cs3, he3, hc3⟩ := (Hh1.out.fr (lie_num flN) hf3k).at hkx
              have he3' : cs3 = flN xs[k] := he3
              subst he3'
              have r0 := hc3 0 _ rfl
              simp only [Nat.zero_add, Nat.add_zero, Nat.mul_one] at r0
              obtain ⟨cs4, ⟨h4, e4, rfl, hh4⟩, hc4⟩ := (HA2.out.fr LL hf3k).at (i := k) (by rw [one_len]; exact hky)
              have s0 := hc4 0 _ rfl
              simp only [Nat.zero_add, Nat.add_zero, Nat.mul_one] at s0
              rw [at_one hky] at s0 hh4
              simp only [List.length_cons, List.length_nil, Nat.zero_add] at s0
              obtain ⟨cs5, he5, hc5⟩ := hh4.at (i := 0) (by simp)
              have he5' : cs5 = flN ys[k] := he5
              subst he5'
              have t0 := hc5 0 _ rfl
              simp only [Nat.zero_add, Nat.add_zero, Nat.mul_one, Nat.zero_mul] at t0
              have lh4 := hh4.lt
              have lh1k := (Hh1.out.fr (lie_num flN) hf3k).lt
              have lg2k := (HA2.out.fr LL hf3k).lt
              have hxb := HX.out _ (List.getElem_mem hkx)
              have hyb := HY.out _ (List.getElem_mem hky)
              have hdb := dotN_bound HX.out HY.out k
              have hmb := mul_small hxb hyb
              obtain ⟨m, hm, hmul⟩ := run_mul (FI.own (n := xs[k]) (by omega)) (FI.own (n := ys[k]) (by omega)) (by omega)
              obtain ⟨z', hz', hadd⟩ := run_add hz hm (by omega)
              have hdot : dotN xs ys k + xs[k] * ys[k] = dotN xs ys (k + 1) := by
                simp only [dotN]
                rw [List.getD_eq_getElem?_getD, List.getElem?_eq_getElem hkx, List.getD_eq_getElem?_getD, List.getElem?_eq_getElem hky]; rfl
              rw [hdot] at hz'
              have Hz' := Lib.hid hz'
              clear hz hz' hm hdot hdb hmb hxb hyb hc3 hc4 hc5 he3 he5 hh4
              generalize fw xs[k] = fx at *
              generalize fw ys[k] = fy at *
              have hk0 : (0 : Int) ≤ (k : Int) := Int.natCast_nonneg _
              have hk1 : (k : Int) < (n : Int) := by omega
              go_wp2
              go_region
              go_wp2
              go_roundw
              case rel => exact ⟨k + 1, by omega, by simp, ⟨z', Hz'.out, rfl⟩, hfk.drew⟩
              case measure => simp [intOf]; omega
            · have hkn : n = k := by omega
              subst hkn
              have Hz := Lib.hid hz; clear hz
              obtain ⟨wk, ek⟩ : ∃ wk, wk = wr := ⟨_, rfl⟩
              subst ek
              have hrowk := own_fr hrow hfk
              have nk := (hfk.cells.1 _ 0 lj1).trans nj
              have zk : ∀ j, wk.frozen? ⟨gN, j, none⟩ = false := fun j => (hfk.cells.2 _ j lj1).trans (zj j)
              have lk : gN < wk.heap.size := Nat.lt_of_lt_of_le lj1 hfk.size
              have hf3k := hfi.step hfk
              have hsk := hf3k.size
              go_wp2
              go_loopw [15, 20] (fun row l W => ((l = .int .i64 0 ∧ row = .slice (some ⟨w5.heap.size, 0, none⟩) 0 0 ∧ W = wk) ∨ (l = .int .i64 1 ∧ ∃ gh ch y u, row = .slice (some ⟨gh, 0, none⟩) 1 ch ∧ gh ≠ gN ∧ w3.heap.size ≤ gh ∧ W.cell? ⟨gh, 0, none⟩ = some y ∧ (∀ j, W.frozen? ⟨gh, j, none⟩ = false) ∧ W.cell? ⟨gN, 0, none⟩ = some u ∧ (∀ j, W.frozen? ⟨gN, j, none⟩ = false))) ∧ Fr w3 W) (fun _ l _ => 1 - (intOf l).toNat)
              case atStart => exact ⟨.inl ⟨rfl, rfl, rfl⟩, hf3k⟩
              case round =>
                obtain ⟨⟨rfl, rfl, rfl⟩ | ⟨rfl, gh, ch, y, u, rfl, hne, hgh, s0, s1, s2, s3⟩, hfl⟩ := hrel
                · go_wp2_with (at_builtin; refine wpList_append_lies _ rfl _ _ 74 rfl w3.heap.size 27 i0 (.float .f64 0) 1 8 Tryz.underlying74 hi hz0 hz1 hz2 rfl (by decide) _ _ _ rfl (hrowk.alloc _) ⟨wr.heap.size, 0, none⟩ 1 1 [.float .f64 0] rfl rfl (news_new rfl rfl) (oneCells rfl) (by decide) (by simp [maxLen]) (by omega) (by simp; omega) _ rfl ?_)
                  intro gh ch w8 hown8 hgrow8 hat8 hlt8
                  have hob : ∀ q, (Value.slice (some ⟨w5.heap.size, 0, none⟩) 0 0).ownBlock = some q → w5.heap.size = q := fun q h => by simpa [Value.ownBlock] using h
                  have hne : gh ≠ gN := by
                    rcases hat8 with h | h
                    · have := hob _ h; omega
                    · (try simp at h); omega
                  have hgh : w3.heap.size ≤ gh := by
                    rcases hat8 with h | h
                    · have := hob _ h; omega
                    · (try simp at h); omega
                  have s0 := hown8.cellAt 0 (by omega)
                  have s1 := hown8.frozenAt
                  have hnb : some gN ≠ (Value.slice (some ⟨w5.heap.size, 0, none⟩) 0 0).ownBlock := fun e => lj2 (hob _ e.symm).symm
                  have s2 := (hgrow8.cell_far ⟨gN, 0, none⟩ (Nat.lt_of_lt_of_le lk (by simp)) hnb).trans ((World.cell?_alloc_lt _ _ _ lk).trans nk)
                  have s3 : ∀ j, w8.frozen? ⟨gN, j, none⟩ = false := fun j => (hgrow8.frozen_far ⟨gN, j, none⟩ (Nat.lt_of_lt_of_le lk (by simp)) hnb).trans ((World.frozen?_alloc_old _ _ _ (Nat.ne_of_lt lk)).trans (zk j))
                  have hf8 : Fr w3 w8 := (hfl.alloc _).grown hgrow8 (fun q h => by have := hob _ h; omega)
                  have HS := Lib.hid (show ∃ gh' ch' y u, Value.slice (some ⟨gh, 0, none⟩) (0 + 1) ch = .slice (some ⟨gh', 0, none⟩) 1 ch' ∧ gh' ≠ gN ∧ w3.heap.size ≤ gh' ∧ w8.cell? ⟨gh', 0, none⟩ = some y ∧ (∀ j, w8.frozen? ⟨gh', j, none⟩ = false) ∧ w8.cell? ⟨gN, 0, none⟩ = some u ∧ (∀ j, w8.frozen? ⟨gN, j, none⟩ = false) from ⟨gh, ch, _, _, rfl, hne, hgh, s0, s1, s2, s3⟩)
                  clear s0 s1 s2 s3 hown8 hgrow8 hat8 hob hnb
                  go_wp2
                  go_roundw
                  case rel => exact ⟨.inr ⟨rfl, HS.out⟩, hf8⟩
                  case measure => simp [intOf]
                · go_wp2
                  go_roundw
                  case rel =>
                    refine ⟨.inr ⟨rfl, gh, ch, z, Hz.out, ?_, ?_⟩, ?_⟩
                    · exact cset_s (u := u) (by rw [cset_o (by first | (simp; done) | (simp; exact hne))]; exact s2)
                    · rw [cset_o (by first | (simp; done) | (simp; exact fun e => hne e.symm))]; exact cset_s s0
                    · exact Fr.set hgn5 (Fr.set hgh hfl _) _
                  case measure => simp [intOf]
        · have Hz := Lib.hid hz; clear hz
          go_wp2
          go_roundw
          case rel => exact ⟨.inr ⟨rfl, gN, cN, hN, cH, z, rfl, Hz.out, m0, m1⟩, hfi⟩
          case measure => simp [intOf]
    · obtain ⟨kr, zr⟩ := hf.cells
      have hszr := hf.size
      have lr : w.heap.size < wr.heap.size := by omega
      have HAM := Lib.hid (argMatrix_one gN hN cN cH z (dotN xs ys n) wr hz m0 m1)
      clear m0 m1 a0 b0
      go_wp2_with fail
      refine HAM.out.mono ?_
      rintro e w9 ⟨g9, d9, rfl, hr9, hf9⟩
      have hsz9 := hf9.size
      have l9 : w.heap.size < w9.heap.size := by omega
      obtain ⟨k9, z9⟩ := hf9.cells
      have HR9 := Lib.hid hr9; clear hr9
      go_wp2_with fail
      refine (newMatrix_any _ _ _ _).mono ?_
      rintro e w10 ⟨rfl, hf10⟩
      have hsz10 := hf10.size
      have hres : w10.heap[w.heap.size]? = some (.cells #[.string ⟨#[]⟩, .float .f64 0, .string ⟨#[]⟩, .slice none 0 0, .slice none 0 0, .bool false, .string ⟨#[]⟩, .int .u8 0, .pointer none, .pointer none] 54 (0, 0)) :=
        (hf10.block _ l9).trans ((hf9.block _ lr).trans ((hf.block _ l30).trans ((hf3.block _ (by simp; omega)).trans (at_old ((hf2.block _ (by simp; omega)).trans (at_old (at_old (at_new rfl))))))))
      obtain ⟨k10, z10⟩ := obj_rules2 hres
      clear kr zr k9 z9 hres
      go_wp2
      exact bodyPost_ret (v := .agg #[.string mt, .float .f64 0, .string mt, .slice none 0 0, .slice (some ⟨g9, 0, none⟩) 1 d9, .bool false, .string mt, .int .u8 4, .pointer none, .pointer none]) (by simp [results, Tryz.results23, go_sem, sv, mt, *]) rfl ⟨g9, d9, rfl, by
        refine RowOf.mono LF (S := fun b => w.heap.size + 1 ≤ b) ?_ (fun b (h : w.heap.size + 1 ≤ b) => by omega)
        (iterate 10 refine RowOf.low LF ?_ _ _ (by simp))
        exact (HR9.out.mono LF (fun b (h : wr.heap.size ≤ b) => by omega)).fr LF hf10, by
        (iterate 10 refine Fr.set (by simp) ?_ _)
        exact ((hfw3.step hf).step hf9).step hf10⟩
end Go.Proofs.YtlhonpmpchkkfaaGreatDoor
