import Derived.Test.YtlhonpmpchkkfaaGreatDoorD21
import Derived.Test.YtlhonpmpchkkfaaGreatDoorGO
set_option linter.unusedSimpArgs false
set_option linter.unusedVariables false
/- SUMSQ of a column. -/
namespace Go.Proofs.YtlhonpmpchkkfaaGreatDoor
open Go.RowKit
open Fl
open Ieee (double)
/-- What the walk wants of the library's tables. -/
def T3 (w : World) : Prop := PT w ∧ DT w ∧ PF w
theorem T3.fr {w w' : World} (h : T3 w) (hf : Fr w w') : T3 w' := ⟨h.1.fr hf, h.2.1.fr hf, h.2.2.fr hf⟩
/-- What a number's text is. -/
def ValC : Prop := ∀ (x : Int) (W : World), x.natAbs ≤ 99 → T3 W → Calls Tryz.prog 45 #[fa 1 (fw x) mt mt] W fun e w' => e = .returned (.string (numT x)) ∧ Fr W w'
theorem numT_some (x : Int) : ¬ numT x = ⟨#[]⟩ := fun h => by
  have h1 := itoa_len_pos x
  have h2 : (numT x).data.toList.length = 0 := by rw [h]; rfl
  unfold numT at h2
  simp at h2
  rw [h2] at h1
  simp at h1
theorem numT_list (x : Int) : ¬ (numT x).toList = [] := fun h => by
  have h1 := itoa_len_pos x
  have h2 : (numT x).data.toList.length = 0 := by rw [← Go.Lib.toList_data, h]; rfl
  unfold numT at h2
  simp at h2
  rw [h2] at h1
  simp at h1
theorem numT_isEmpty (x : Int) : (numT x).toList.isEmpty = false := by
  have := numT_list x
  cases h : (numT x).toList with
  | nil => exact absurd h this
  | cons a l => rfl
set_option maxRecDepth 100000 in
set_option maxHeartbeats 4000000 in
theorem SUMSQm (hV : ValC) (f : Value) (R1 cap1 p1 q1 : Nat) (xs : List Int) (w : World) (p b1 : Nat) (S1 : Nat → Prop)
    (hL : LS w p [b1] [.agg #[.string mt, .float .f64 0, .string mt, .slice none 0 0, .slice (some ⟨R1, 0, none⟩) xs.length cap1, .bool false, .string mt, .int .u8 4, .pointer (some ⟨p1, 0, none⟩), .pointer (some ⟨q1, 0, none⟩)]])
    (hr1 : RowOf (ESl (ENum fN) 10) 1 w S1 R1 0 (one xs)) (h0 : 0 < xs.length) (h30 : xs.length ≤ 30) (hx : ∀ x ∈ xs, x.natAbs ≤ 99) (hT : T3 w) :
    Calls Tryz.prog 27 #[f, .pointer (some ⟨p, 0, none⟩)] w fun e w' => e = .returned (fa 1 (fw (dotN xs xs xs.length)) mt mt) ∧ Fr w w' := by
  have HX := Lib.hid hx; clear hx
  have HV := Lib.hid hV; clear hV
  have HT := Lib.hid hT; clear hT
  obtain ⟨n, hn⟩ : ∃ n, n = xs.length := ⟨_, rfl⟩
  rw [← hn] at h0 h30 hL ⊢
  have Hn := Lib.hid hn; clear hn
  have HL := Lib.hid hL; clear hL
  have HR1 := Lib.hid hr1; clear hr1
  have LF := lie_sl (lie_num fN) 10
  have c1 := (HL.out.el 0 b1 _ rfl rfl).2.2
  have hbs1 := (HL.out.hb b1 (by simp)).2
  have lR := HR1.out.lt
  go_enter Tryz.func27, Tryz.ntmps27
  go_wp2_with fail
  refine (Front_any _ p b1 [] _ (HL.out.fr (by repeat (first | (with_reducible exact Fr.refl _) | ((with_reducible refine Fr.set ?_ ?_ _); focus (simp; done)) | (with_reducible refine Fr.alloc ?_ _) | (with_reducible refine Fr.drew ?_) | (with_reducible refine Fr.step ?_ (by assumption)))))).mono ?_
  rintro e w1 ⟨rfl, rfl⟩
  obtain ⟨wA, hA⟩ : ∃ wA, wA = w.alloc (.cells zFa 54) := ⟨_, rfl⟩
  have hfA : Fr w wA := by rw [hA]; exact (Fr.refl w).alloc _
  have hsA : wA.heap.size = w.heap.size + 1 := by rw [hA]; simp
  have hres : wA.heap[w.heap.size]? = some (.cells zFa 54 (0, 0)) := by rw [hA]; exact at_new rfl
  have HA := Lib.hid hA; clear hA
  go_wp2
  go_loopw [6, 8] (fun sq a W => ((a = .pointer (some ⟨b1, 0, none⟩) ∧ sq = .float .f64 0) ∨ (a = .pointer none ∧ ∃ z, FI z (dotN xs xs n) ∧ sq = .float .f64 z)) ∧ Fr wA W) (fun _ a _ => match a with | .pointer (some _) => 1 | _ => 0)
  case atStart => exact ⟨.inl ⟨rfl, rfl⟩, by rw [HA.out]; exact Fr.refl _⟩
  case round =>
    obtain ⟨⟨rfl, rfl⟩ | ⟨rfl, z, hz, rfl⟩, hf⟩ := hrel
    · have hfw := hfA.step hf
      have hsz := hf.size
      have c1r := (hfw.cells.1 _ 3 hbs1).trans c1
      clear c1 hres
      obtain ⟨w0, e0⟩ : ∃ w0, w0 = wr := ⟨_, rfl⟩
      subst e0
      go_wp2
      go_loopw [6, 62] (fun sq i W => ∃ k : Nat, k ≤ n ∧ i = .int .i64 k ∧ (∃ z, FI z (dotN xs xs k) ∧ sq = .float .f64 z) ∧ Fr w0 W) (fun _ i _ => n - (intOf i).toNat)
      case atStart => exact ⟨0, Nat.zero_le _, rfl, ⟨0, FI_zero, rfl⟩, (by repeat (first | (with_reducible exact Fr.refl _) | ((with_reducible refine Fr.set ?_ ?_ _); focus (simp; done)) | (with_reducible refine Fr.alloc ?_ _) | (with_reducible refine Fr.drew ?_) | (with_reducible refine Fr.step ?_ (by assumption))))⟩
      case round =>
        obtain ⟨k, hk, rfl, ⟨z, hz, rfl⟩, hfk⟩ := hrel
        have HZ := Lib.hid hz; clear hz
        have hfwk := hfw.step hfk
        clear c1r
        by_cases hlt : k < n
        · have hkx : k < xs.length := by rw [← Hn.out]; exact hlt
          obtain ⟨cs, ⟨g1, cg1, rfl, hrow⟩, hcs⟩ := (HR1.out.fr LF hfwk).at (show k < (one xs).length by rw [one_len]; exact hkx)
          have c0 := hcs 0 _ rfl
          simp only [Nat.zero_add, Nat.add_zero, Nat.mul_one] at c0
          clear hcs
          rw [at_one hkx] at hrow c0
          have lg := hrow.lt
          obtain ⟨ds, hE, hds⟩ := hrow.at (i := 0) (by simp)
          have hE' : ds = fN xs[k] := hE
          subst hE'
          have d0 := hds 0 _ rfl
          have d1 := hds 1 _ rfl
          have d2 := hds 2 _ rfl
          have d3 := hds 3 _ rfl
          have d4 := hds 4 _ rfl
          have d5 := hds 5 _ rfl
          have d6 := hds 6 _ rfl
          have d7 := hds 7 _ rfl
          have d8 := hds 8 _ rfl
          have d9 := hds 9 _ rfl
          simp only [Nat.zero_add, Nat.add_zero, Nat.zero_mul] at d0 d1 d2 d3 d4 d5 d6 d7 d8 d9
          have hxb := HX.out _ (List.getElem_mem hkx)
          have hzk : xs.getD k 0 = xs[k] := by rw [List.getD_eq_getElem?_getD, List.getElem?_eq_getElem hkx]; rfl
          have hmb := mul_small hxb hxb
          have hdb := dotN_bound HX.out HX.out k
          obtain ⟨m, hm, hmul⟩ := run_mul (FI.own (n := xs[k]) (by omega)) (FI.own (n := xs[k]) (by omega)) (by omega)
          obtain ⟨z', hz', hadd⟩ := run_add HZ.out hm (by omega)
          rw [← hzk] at hz'
          have HZ' := Lib.hid (show FI z' (dotN xs xs (k + 1)) from hz')
          have HVx := Lib.hid (fun W => HV.out xs[k] W hxb)
          have HPx := Lib.hid (fun W h => ParseFloat_num xs[k] W hxb h)
          have hne := numT_some xs[k]
          have hne1 := numT_list xs[k]
          have hne2 := numT_isEmpty xs[k]
          clear hm hz' hdb hmb hzk hxb hE hds hrow
          generalize xs[k] = x at *
          generalize numT x = tx at *
          generalize fw x = fx at *
          have lR2 : R1 < wr.heap.size := Nat.lt_of_lt_of_le lR hfwk.size
          have hk0 : (0 : Int) ≤ (k : Int) := Int.natCast_nonneg _
          have hk1 : (k : Int) < (n : Int) := by omega
          obtain ⟨w2, e2⟩ : ∃ w2, w2 = wr := ⟨_, rfl⟩
          subst e2
          go_wp2
          go_loopw [6, 68] (fun sq i W => ((i = .int .i64 0 ∧ sq = .float .f64 z) ∨ (i = .int .i64 1 ∧ sq = .float .f64 z')) ∧ Fr w2 W) (fun _ i _ => 1 - (intOf i).toNat)
          case atStart => exact ⟨.inl ⟨rfl, rfl⟩, Fr.refl _⟩
          case round =>
            obtain ⟨⟨rfl, rfl⟩ | ⟨rfl, rfl⟩, hfi⟩ := hrel
            · have lgi : g1 < wr.heap.size := Nat.lt_of_lt_of_le lg hfi.size
              have e0 := (hfi.cells.1 _ _ lg).trans d0
              have e1 := (hfi.cells.1 _ _ lg).trans d1
              have e2 := (hfi.cells.1 _ _ lg).trans d2
              have e3 := (hfi.cells.1 _ _ lg).trans d3
              have e4 := (hfi.cells.1 _ _ lg).trans d4
              have e5 := (hfi.cells.1 _ _ lg).trans d5
              have e6 := (hfi.cells.1 _ _ lg).trans d6
              have e7 := (hfi.cells.1 _ _ lg).trans d7
              have e8 := (hfi.cells.1 _ _ lg).trans d8
              have e9 := (hfi.cells.1 _ _ lg).trans d9
              have HTi := Lib.hid (HT.out.fr (hfwk.step hfi))
              clear d0 d1 d2 d3 d4 d5 d6 d7 d8 d9 c0
              unfold fa at HVx
              go_wp2_with fail
              refine (HVx.out _ (HTi.out.fr (by repeat (first | (with_reducible exact Fr.refl _) | ((with_reducible refine Fr.set ?_ ?_ _); focus (simp; done)) | (with_reducible refine Fr.alloc ?_ _) | (with_reducible refine Fr.drew ?_) | (with_reducible refine Fr.step ?_ (by assumption)))))).mono ?_
              rintro e wv ⟨rfl, hfv⟩
              have hszv := hfv.size
              simp at hszv
              obtain ⟨hcv, hzv⟩ := hfv.cells
              simp at hcv hzv
              have lv : wr.heap.size < wv.heap.size := by omega
              go_wp2_with fail
              refine (HVx.out _ (HTi.out.fr (by repeat (first | (with_reducible exact Fr.refl _) | ((with_reducible refine Fr.set ?_ ?_ _); focus (simp; done)) | (with_reducible refine Fr.alloc ?_ _) | (with_reducible refine Fr.drew ?_) | (with_reducible refine Fr.step ?_ (by assumption)))))).mono ?_
              rintro e wu ⟨rfl, hfu⟩
              have hszu := hfu.size
              go_wp2_with fail
              refine (HPx.out _ (HTi.out.fr (by repeat (first | (with_reducible exact Fr.refl _) | ((with_reducible refine Fr.set ?_ ?_ _); focus (simp; done)) | (with_reducible refine Fr.alloc ?_ _) | (with_reducible refine Fr.drew ?_) | (with_reducible refine Fr.step ?_ (by assumption))))).2.2).mono ?_
              rintro e wp ⟨rfl, hfp⟩
              go_wp2
              go_roundw
              case rel => exact ⟨.inr ⟨rfl, rfl⟩, (by repeat (first | (with_reducible exact Fr.refl _) | ((with_reducible refine Fr.set ?_ ?_ _); focus (simp; done)) | (with_reducible refine Fr.alloc ?_ _) | (with_reducible refine Fr.drew ?_) | (with_reducible refine Fr.step ?_ (by assumption))))⟩
              case measure => simp [intOf]
            · clear d0 d1 d2 d3 d4 d5 d6 d7 d8 d9 c0
              go_wp2
              go_roundw
              case rel => exact ⟨k + 1, by omega, by simp, ⟨z', HZ'.out, rfl⟩, hfk.step hfi⟩
              case measure => simp [intOf]; omega
        · have hkn : n = k := by omega
          subst hkn
          go_wp2_with fail
          refine (Next_any _ p 0 [b1] _ (HL.out.fr hfwk) (by simp)).mono ?_
          rintro e w7 ⟨rfl, rfl⟩
          go_wp2
          go_roundw
          case rel => exact ⟨.inr ⟨rfl, z, HZ.out, rfl⟩, hf.step hfk⟩
          case measure => simp [ptrAt]
    · have hfw := hfA.step hf
      have hsz := hf.size
      have Hrk := Lib.hid ((hf.block _ (by omega)).trans hres)
      have HZ := Lib.hid hz
      clear c1 hres hz
      go_wp2_with fail
      refine (newNumber_fi z _ _ HZ.out).mono ?_
      rintro e w9 ⟨rfl, hf9⟩
      have hsz9 := hf9.size
      have l9 : w.heap.size < w9.heap.size := by omega
      have hres9 := (hf9.block w.heap.size (by omega)).trans Hrk.out
      obtain ⟨k9, z9⟩ := obj_rules2 hres9
      unfold zFa at k9
      unfold fa
      clear hres9
      go_wp2
      exact bodyPost_ret (v := .agg #[.string mt, .float .f64 (fw (dotN xs xs n)), .string mt, .slice none 0 0, .slice none 0 0, .bool false, .string mt, .int .u8 1, .pointer none, .pointer none]) (by simp [results, Tryz.results27, go_sem, sv, mt, *]) rfl ⟨rfl, by
        (iterate 10 refine Fr.set (by simp) ?_ _)
        exact hfw.step hf9⟩
end Go.Proofs.YtlhonpmpchkkfaaGreatDoor
/- SUMSQ of a column, called through the thin package. -/
namespace Go.Proofs.YtlhonpmpchkkfaaGreatDoor
open Go.RowKit
open Fl
open Ieee (double)
set_option maxRecDepth 100000 in
set_option maxHeartbeats 2000000 in
theorem DoorSUMSQ_dot (hV : ValC) (S : Nat → Prop) (g cap : Nat) (xs : List Int) (w : World) (hv : RowOf EI 4 w S g 0 [one xs]) (h0 : 0 < xs.length) (h30 : xs.length ≤ 30) (hx : ∀ x ∈ xs, x.natAbs ≤ 99) (hT3 : T3 w) :
    Calls Tryz.prog 19 #[.slice (some ⟨g, 0, none⟩) 1 cap] w fun e w' => e = .returned (iv 1 (fw (dotN xs xs xs.length)) mt) ∧ Fr w w' := by
  have Hv := Lib.hid hv; clear hv
  have HT3 := Lib.hid hT3; clear hT3
  have hb53 : ∀ {l : List Int}, (∀ x ∈ l, x.natAbs ≤ 99) → ∀ x ∈ l, x.natAbs < 2 ^ 53 := fun h x hx => by have := h x hx; omega
  have HI := Lib.hid (fun W h => innerList_mats S g cap [one xs] W h (by simp) (by simp) (fun m hm => by simp at hm; subst hm; exact fit_one h0 h30 (hb53 hx)))
  rw [show ([one xs] : List (List (List Int))).length = 1 from rfl] at HI
  have HT := Lib.hid (fun f R1 cap1 p1 q1 W p b1 hL hr1 hT => SUMSQm hV f R1 cap1 p1 q1 xs W p b1 (fun _ => True) hL hr1 h0 h30 hx hT)
  have Hol := Lib.hid (one_len xs)
  clear h0 h30 hx hb53 hV
  generalize dotN xs xs xs.length = s at *
  go_enter Tryz.func19, Tryz.ntmps19
  go_wp2_with fail
  refine (doorFuncs_any _).mono ?_
  rintro e w1 ⟨f, rfl, hf1⟩
  have hsz1 := hf1.size
  (try simp at hsz1)
  obtain ⟨hc1, hz1⟩ := hf1.cells
  (try simp at hc1); (try simp at hz1)
  have l1 : w.heap.size < w1.heap.size := by omega
  go_wp2_with fail
  refine (HI.out _ (Hv.out.fr lie_ei (by repeat (first | (with_reducible exact Fr.refl _) | ((with_reducible refine Fr.set ?_ ?_ _); focus (simp; done)) | (with_reducible refine Fr.alloc ?_ _) | (with_reducible refine Fr.drew ?_) | (with_reducible refine Fr.step ?_ (by assumption)))))).mono ?_
  rintro e w2 ⟨p, bs, vs, rfl, hL, hM, hf2⟩
  obtain ⟨b, R1, cap1, p1, q1, rfl, rfl, hE1⟩ := hM.one hL
  rw [Hol.out] at hL hE1
  have HL := Lib.hid hL; clear hL hM
  have HE1 := Lib.hid hE1.rows; clear hE1
  have HT3w := Lib.hid (HT3.out.fr (show Fr w w2 from (by repeat (first | (with_reducible exact Fr.refl _) | ((with_reducible refine Fr.set ?_ ?_ _); focus (simp; done)) | (with_reducible refine Fr.alloc ?_ _) | (with_reducible refine Fr.drew ?_) | (with_reducible refine Fr.step ?_ (by assumption))))))
  have hsz2 := hf2.size
  obtain ⟨hc2, hz2⟩ := hf2.cells
  have l2 : w.heap.size < w2.heap.size := by omega
  go_wp2_with fail
  refine (HT.out _ R1 cap1 p1 q1 _ p b HL.out HE1.out HT3w.out).mono ?_
  rintro e w3 ⟨rfl, hf3⟩
  have hsz3 := hf3.size
  obtain ⟨hc3, hz3⟩ := hf3.cells
  have l3 : w.heap.size < w3.heap.size := by omega
  go_wp2_with fail
  refine (doorArg_num _ _).mono ?_
  rintro e w4 ⟨rfl, hf4⟩
  have hsz4 := hf4.size
  obtain ⟨hc4, hz4⟩ := hf4.cells
  have l4 : w.heap.size < w4.heap.size := by omega
  unfold iv
  go_wp2
  exact bodyPost_ret (v := .agg #[.int .i64 1, .float .f64 (fw s), .string mt, .slice none 0 0]) (by simp [results, Tryz.results19, go_sem, sv, mt, *]) rfl ⟨rfl, (by repeat (first | (with_reducible exact Fr.refl _) | ((with_reducible refine Fr.set ?_ ?_ _); focus (simp; done)) | (with_reducible refine Fr.alloc ?_ _) | (with_reducible refine Fr.drew ?_) | (with_reducible refine Fr.step ?_ (by assumption))))⟩
set_option maxRecDepth 100000 in
set_option maxHeartbeats 2000000 in
theorem implSUMSQ_dot (hV : ValC) (S : Nat → Prop) (g cap : Nat) (xs : List Int) (w : World) (hv : RowOf EI 4 w S g 0 [one xs]) (h0 : 0 < xs.length) (h30 : xs.length ≤ 30) (hx : ∀ x ∈ xs, x.natAbs ≤ 99) (hT3 : T3 w) :
    Calls Tryz.prog 10 #[.slice (some ⟨g, 0, none⟩) 1 cap] w fun e w' => e = .returned (iv 1 (fw (dotN xs xs xs.length)) mt) ∧ Fr w w' := by
  have Hv := Lib.hid hv; clear hv
  have HT3 := Lib.hid hT3; clear hT3
  have hb53 : ∀ {l : List Int}, (∀ x ∈ l, x.natAbs ≤ 99) → ∀ x ∈ l, x.natAbs < 2 ^ 53 := fun h x hx => by have := h x hx; omega
  have HI := Lib.hid (fun W h => in_mat S g cap [one xs] W h (by simp) (by simp) (fun m hm => by simp at hm; subst hm; exact fit_one h0 h30 (hb53 hx)))
  rw [show ([one xs] : List (List (List Int))).length = 1 from rfl] at HI
  have HT := Lib.hid (fun g cap W S h hT => DoorSUMSQ_dot hV S g cap xs W h h0 h30 hx hT)
  clear h0 h30 hx hb53 hV
  generalize dotN xs xs xs.length = s at *
  go_enter Tryz.func10, Tryz.ntmps10
  go_wp2_with fail
  refine (HI.out _ (Hv.out.fr lie_ei (by repeat (first | (with_reducible exact Fr.refl _) | ((with_reducible refine Fr.set ?_ ?_ _); focus (simp; done)) | (with_reducible refine Fr.alloc ?_ _) | (with_reducible refine Fr.drew ?_) | (with_reducible refine Fr.step ?_ (by assumption)))))).mono ?_
  rintro e w1 ⟨g1, c1, rfl, hr1, hf1⟩
  have HR1 := Lib.hid hr1; clear hr1
  have HT3w := Lib.hid (HT3.out.fr (show Fr w w1 from (by repeat (first | (with_reducible exact Fr.refl _) | ((with_reducible refine Fr.set ?_ ?_ _); focus (simp; done)) | (with_reducible refine Fr.alloc ?_ _) | (with_reducible refine Fr.drew ?_) | (with_reducible refine Fr.step ?_ (by assumption))))))
  have hsz1 := hf1.size
  (try simp at hsz1)
  obtain ⟨hc1, hz1⟩ := hf1.cells
  (try simp at hc1); (try simp at hz1)
  have l1 : w.heap.size < w1.heap.size := by omega
  go_wp2_with fail
  refine (HT.out g1 c1 _ _ HR1.out HT3w.out).mono ?_
  rintro e w2 ⟨rfl, hf2⟩
  have hsz2 := hf2.size
  obtain ⟨hc2, hz2⟩ := hf2.cells
  have l2 : w.heap.size < w2.heap.size := by omega
  go_wp2_with fail
  refine (out_any _ _ _ _).mono ?_
  rintro e w4 ⟨rfl, hf4⟩
  have hsz4 := hf4.size
  obtain ⟨hc4, hz4⟩ := hf4.cells
  have l4 : w.heap.size < w4.heap.size := by omega
  unfold iv
  go_wp2
  exact bodyPost_ret (v := .agg #[.int .i64 1, .float .f64 (fw s), .string mt, .slice none 0 0]) (by simp [results, Tryz.results10, go_sem, sv, mt, *]) rfl ⟨rfl, (by repeat (first | (with_reducible exact Fr.refl _) | ((with_reducible refine Fr.set ?_ ?_ _); focus (simp; done)) | (with_reducible refine Fr.alloc ?_ _) | (with_reducible refine Fr.drew ?_) | (with_reducible refine Fr.step ?_ (by assumption))))⟩
end Go.Proofs.YtlhonpmpchkkfaaGreatDoor
