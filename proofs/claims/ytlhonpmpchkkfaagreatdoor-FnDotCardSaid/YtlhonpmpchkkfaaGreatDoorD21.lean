import Derived.Test.YtlhonpmpchkkfaaGreatDoorD20
set_option linter.unusedSimpArgs false
set_option linter.unusedVariables false
/- SUMPRODUCT of two columns. -/
namespace Go.Proofs.YtlhonpmpchkkfaaGreatDoor
open Go.RowKit
open Fl
open Ieee (double)
set_option maxRecDepth 100000 in
set_option maxHeartbeats 2000000 in
theorem SUMPRODUCTm (f : Value) (R1 cap1 p1 q1 R2 cap2 p2 q2 : Nat) (xs ys : List Int) (w : World) (p b1 b2 : Nat) (S1 S2 : Nat → Prop)
    (hL : LS w p [b1, b2] [.agg #[.string mt, .float .f64 0, .string mt, .slice none 0 0, .slice (some ⟨R1, 0, none⟩) xs.length cap1, .bool false, .string mt, .int .u8 4, .pointer (some ⟨p1, 0, none⟩), .pointer (some ⟨q1, 0, none⟩)],
      .agg #[.string mt, .float .f64 0, .string mt, .slice none 0 0, .slice (some ⟨R2, 0, none⟩) ys.length cap2, .bool false, .string mt, .int .u8 4, .pointer (some ⟨p2, 0, none⟩), .pointer (some ⟨q2, 0, none⟩)]])
    (hr1 : RowOf (ESl (ENum fN) 10) 1 w S1 R1 0 (one xs)) (hr2 : RowOf (ESl (ENum fN) 10) 1 w S2 R2 0 (one ys)) (h0 : 0 < xs.length) (h30 : xs.length ≤ 30) (hxy : ys.length = xs.length) (hx : ∀ x ∈ xs, x.natAbs ≤ 99) (hy : ∀ y ∈ ys, y.natAbs ≤ 99) :
    Calls Tryz.prog 26 #[f, .pointer (some ⟨p, 0, none⟩)] w fun e w' => e = .returned (fa 1 (fw (dotN xs ys xs.length)) mt mt) ∧ Fr w w' := by
  have HT := Lib.hid (fun W hL hr1 hr2 => sumproduct_two f R1 cap1 p1 q1 R2 cap2 p2 q2 xs ys W p b1 b2 S1 S2 hL hr1 hr2 h0 h30 hxy hx hy)
  clear h0 h30 hxy hx hy
  generalize dotN xs ys xs.length = s at *
  generalize xs.length = n1 at *
  generalize ys.length = n2 at *
  have HL := Lib.hid hL; clear hL
  have HR1 := Lib.hid hr1; clear hr1
  have HR2 := Lib.hid hr2; clear hr2
  have LF := lie_sl (lie_num fN) 10
  have c1 := (HL.out.el 0 b1 _ rfl rfl).2.2
  have c2 := (HL.out.el 1 b2 _ rfl rfl).2.2
  have hbs1 := (HL.out.hb b1 (by simp)).2
  have hbs2 := (HL.out.hb b2 (by simp)).2
  go_enter Tryz.func26, Tryz.ntmps26
  go_wp2_with fail
  refine (Len_any _ p [b1, b2] _ (HL.out.fr (by repeat (first | (with_reducible exact Fr.refl _) | ((with_reducible refine Fr.set ?_ ?_ _); focus (simp; done)) | (with_reducible refine Fr.alloc ?_ _) | (with_reducible refine Fr.drew ?_) | (with_reducible refine Fr.step ?_ (by assumption)))))).mono ?_
  rintro e w1 ⟨rfl, rfl⟩
  go_wp2_with fail
  refine (Front_any _ p b1 [b2] _ (HL.out.fr (by repeat (first | (with_reducible exact Fr.refl _) | ((with_reducible refine Fr.set ?_ ?_ _); focus (simp; done)) | (with_reducible refine Fr.alloc ?_ _) | (with_reducible refine Fr.drew ?_) | (with_reducible refine Fr.step ?_ (by assumption)))))).mono ?_
  rintro e w1 ⟨rfl, rfl⟩
  obtain ⟨wA, hA⟩ : ∃ wA, wA = w.alloc (.cells zFa 54) := ⟨_, rfl⟩
  have hfA : Fr w wA := by rw [hA]; exact (Fr.refl w).alloc _
  have hsA : wA.heap.size = w.heap.size + 1 := by rw [hA]; simp
  have hres : wA.heap[w.heap.size]? = some (.cells zFa 54 (0, 0)) := by rw [hA]; exact at_new rfl
  have HA := Lib.hid hA; clear hA
  go_wp2
  go_loopw [5] (fun a W => (a = .pointer (some ⟨b1, 0, none⟩) ∨ a = .pointer (some ⟨b2, 0, none⟩) ∨ a = .pointer none) ∧ Fr wA W) (fun a _ => match a with | .pointer (some a) => (if a.block = b1 then 2 else 1) | _ => 0)
  case atStart => exact ⟨.inl rfl, by rw [HA.out]; exact Fr.refl _⟩
  case round =>
    obtain ⟨rfl | rfl | rfl, hf⟩ := hrel
    · have hfw := hfA.step hf
      have c1r := (hfw.cells.1 _ 3 hbs1).trans c1
      clear c1 c2
      go_wp2_with fail
      refine (Next_any _ p 0 [b1, b2] _ (HL.out.fr (hfw.alloc _)) (by simp)).mono ?_
      rintro e w7 ⟨rfl, rfl⟩
      go_wp2
      go_roundw
      case rel => exact ⟨.inr (.inl rfl), hf.alloc _⟩
      case measure =>
        have hne : b2 ≠ b1 := fun e => by have := HL.out.nd; simp at this; exact this e.symm
        simp [ptrAt, hne]
    · have hfw := hfA.step hf
      have c2r := (hfw.cells.1 _ 3 hbs2).trans c2
      clear c1 c2
      go_wp2_with fail
      refine (Next_any _ p 1 [b1, b2] _ (HL.out.fr (hfw.alloc _)) (by simp)).mono ?_
      rintro e w7 ⟨rfl, rfl⟩
      go_wp2
      go_roundw
      case rel => exact ⟨.inr (.inr rfl), hf.alloc _⟩
      case measure => simp [ptrAt]; (try (split <;> omega))
    · have hfw := hfA.step hf
      have hsz := hf.size
      have Hrk := Lib.hid ((hf.block _ (by omega)).trans hres)
      clear c1 c2 hres
      go_wp2_with fail
      refine (HT.out _ (HL.out.fr hfw) (HR1.out.fr LF hfw) (HR2.out.fr LF hfw)).mono ?_
      rintro e w9 ⟨rfl, hf9⟩
      have hsz9 := hf9.size
      have l9 : w.heap.size < w9.heap.size := by omega
      have hres9 := (hf9.block w.heap.size (by omega)).trans Hrk.out
      obtain ⟨k9, z9⟩ := obj_rules2 hres9
      unfold zFa at k9
      unfold fa
      clear hres9
      go_wp2
      exact bodyPost_ret (v := .agg #[.string mt, .float .f64 (fw s), .string mt, .slice none 0 0, .slice none 0 0, .bool false, .string mt, .int .u8 1, .pointer none, .pointer none]) (by simp [results, Tryz.results26, go_sem, sv, mt, *]) rfl ⟨rfl, by
        (iterate 10 refine Fr.set (by simp) ?_ _)
        exact hfw.step hf9⟩
set_option maxRecDepth 100000 in
set_option maxHeartbeats 2000000 in
theorem DoorSUMPRODUCT_dot (S : Nat → Prop) (g cap : Nat) (xs ys : List Int) (w : World) (hv : RowOf EI 4 w S g 0 [one xs, one ys]) (h0 : 0 < xs.length) (h30 : xs.length ≤ 30) (hxy : ys.length = xs.length) (hx : ∀ x ∈ xs, x.natAbs ≤ 99) (hy : ∀ y ∈ ys, y.natAbs ≤ 99) :
    Calls Tryz.prog 18 #[.slice (some ⟨g, 0, none⟩) 2 cap] w fun e w' => e = .returned (iv 1 (fw (dotN xs ys xs.length)) mt) ∧ Fr w w' := by
  have Hv := Lib.hid hv; clear hv
  have hb53 : ∀ {l : List Int}, (∀ x ∈ l, x.natAbs ≤ 99) → ∀ x ∈ l, x.natAbs < 2 ^ 53 := fun h x hx => by have := h x hx; omega
  have HI := Lib.hid (fun W h => innerList_mats S g cap [one xs, one ys] W h (by simp) (by simp) (fun m hm => by simp at hm; rcases hm with rfl | rfl; exact fit_one h0 h30 (hb53 hx); exact fit_one (by omega) (by omega) (hb53 hy)))
  rw [show ([one xs, one ys] : List (List (List Int))).length = 2 from rfl] at HI
  have HT := Lib.hid (fun f R1 cap1 p1 q1 R2 cap2 p2 q2 W p b1 b2 hL hr1 hr2 => SUMPRODUCTm f R1 cap1 p1 q1 R2 cap2 p2 q2 xs ys W p b1 b2 (fun _ => True) (fun _ => True) hL hr1 hr2 h0 h30 hxy hx hy)
  have Hol := Lib.hid (one_len ys)
  have Hol1 := Lib.hid (one_len xs)
  clear h0 h30 hx hy hb53 hxy
  generalize dotN xs ys xs.length = s at *
  go_enter Tryz.func18, Tryz.ntmps18
  go_wp2_with fail
  refine (doorFuncs_any _).mono ?_
  rintro e w1 ⟨f, rfl, hf1⟩
  have hsz1 := hf1.size
  (try simp at hsz1)
  obtain ⟨hc1, hz1⟩ := hf1.cells
  (try simp at hc1); (try simp at hz1)
  have l1 : w.heap.size < w1.heap.size := by omega
  go_wp2_with fail
  refine (HI.out _ (Hv.out.fr lie_ei (by repeat (first | (with_reducible exact Fr.refl _) | ((with_reducible refine Fr.set ?_ ?_ _); focus (simp; done)) | (with_reducible refine Fr.alloc ?_ _) | (with_reducible refine Fr.drew ?_) | (with_reducible refine Fr.step ?_ (by assumption)))))).mono ?_
  rintro e w2 ⟨p, bs, vs, rfl, hL, hM, hf2⟩
  obtain ⟨b, R1, cap1, p1, q1, b', R2, cap2, p2, q2, rfl, rfl, hE1, hE2⟩ := hM.two hL
  rw [Hol.out, Hol1.out] at hL
  have HL := Lib.hid hL; clear hL hM
  have HE1 := Lib.hid hE1; clear hE1
  have HE2 := Lib.hid hE2; clear hE2
  have hsz2 := hf2.size
  obtain ⟨hc2, hz2⟩ := hf2.cells
  have l2 : w.heap.size < w2.heap.size := by omega
  go_wp2_with fail
  refine (HT.out _ R1 cap1 p1 q1 R2 cap2 p2 q2 _ p b b' HL.out HE1.out HE2.out).mono ?_
  rintro e w3 ⟨rfl, hf3⟩
  have hsz3 := hf3.size
  obtain ⟨hc3, hz3⟩ := hf3.cells
  have l3 : w.heap.size < w3.heap.size := by omega
  go_wp2_with fail
  refine (doorArg_num _ _).mono ?_
  rintro e w4 ⟨rfl, hf4⟩
  have hsz4 := hf4.size
  obtain ⟨hc4, hz4⟩ := hf4.cells
  have l4 : w.heap.size < w4.heap.size := by omega
  unfold iv
  go_wp2
  exact bodyPost_ret (v := .agg #[.int .i64 1, .float .f64 (fw s), .string mt, .slice none 0 0]) (by simp [results, Tryz.results18, go_sem, sv, mt, *]) rfl ⟨rfl, (by repeat (first | (with_reducible exact Fr.refl _) | ((with_reducible refine Fr.set ?_ ?_ _); focus (simp; done)) | (with_reducible refine Fr.alloc ?_ _) | (with_reducible refine Fr.drew ?_) | (with_reducible refine Fr.step ?_ (by assumption))))⟩
set_option maxRecDepth 100000 in
set_option maxHeartbeats 2000000 in
theorem implSUMPRODUCT_dot (S : Nat → Prop) (g cap : Nat) (xs ys : List Int) (w : World) (hv : RowOf EI 4 w S g 0 [one xs, one ys]) (h0 : 0 < xs.length) (h30 : xs.length ≤ 30) (hxy : ys.length = xs.length) (hx : ∀ x ∈ xs, x.natAbs ≤ 99) (hy : ∀ y ∈ ys, y.natAbs ≤ 99) :
    Calls Tryz.prog 9 #[.slice (some ⟨g, 0, none⟩) 2 cap] w fun e w' => e = .returned (iv 1 (fw (dotN xs ys xs.length)) mt) ∧ Fr w w' := by
  have Hv := Lib.hid hv; clear hv
  have hb53 : ∀ {l : List Int}, (∀ x ∈ l, x.natAbs ≤ 99) → ∀ x ∈ l, x.natAbs < 2 ^ 53 := fun h x hx => by have := h x hx; omega
  have HI := Lib.hid (fun W h => in_mat S g cap [one xs, one ys] W h (by simp) (by simp) (fun m hm => by simp at hm; rcases hm with rfl | rfl; exact fit_one h0 h30 (hb53 hx); exact fit_one (by omega) (by omega) (hb53 hy)))
  rw [show ([one xs, one ys] : List (List (List Int))).length = 2 from rfl] at HI
  have HT := Lib.hid (fun g cap W S h => DoorSUMPRODUCT_dot S g cap xs ys W h h0 h30 hxy hx hy)
  clear h0 h30 hx hy hb53 hxy
  generalize dotN xs ys xs.length = s at *
  go_enter Tryz.func9, Tryz.ntmps9
  go_wp2_with fail
  refine (HI.out _ (Hv.out.fr lie_ei (by repeat (first | (with_reducible exact Fr.refl _) | ((with_reducible refine Fr.set ?_ ?_ _); focus (simp; done)) | (with_reducible refine Fr.alloc ?_ _) | (with_reducible refine Fr.drew ?_) | (with_reducible refine Fr.step ?_ (by assumption)))))).mono ?_
  rintro e w1 ⟨g1, c1, rfl, hr1, hf1⟩
  have HR1 := Lib.hid hr1; clear hr1
  have hsz1 := hf1.size
  (try simp at hsz1)
  obtain ⟨hc1, hz1⟩ := hf1.cells
  (try simp at hc1); (try simp at hz1)
  have l1 : w.heap.size < w1.heap.size := by omega
  go_wp2_with fail
  refine (HT.out g1 c1 _ _ HR1.out).mono ?_
  rintro e w2 ⟨rfl, hf2⟩
  have hsz2 := hf2.size
  obtain ⟨hc2, hz2⟩ := hf2.cells
  have l2 : w.heap.size < w2.heap.size := by omega
  go_wp2_with fail
  refine (out_any _ _ _ _).mono ?_
  rintro e w4 ⟨rfl, hf4⟩
  have hsz4 := hf4.size
  obtain ⟨hc4, hz4⟩ := hf4.cells
  have l4 : w.heap.size < w4.heap.size := by omega
  unfold iv
  go_wp2
  exact bodyPost_ret (v := .agg #[.int .i64 1, .float .f64 (fw s), .string mt, .slice none 0 0]) (by simp [results, Tryz.results9, go_sem, sv, mt, *]) rfl ⟨rfl, (by repeat (first | (with_reducible exact Fr.refl _) | ((with_reducible refine Fr.set ?_ ?_ _); focus (simp; done)) | (with_reducible refine Fr.alloc ?_ _) | (with_reducible refine Fr.drew ?_) | (with_reducible refine Fr.step ?_ (by assumption))))⟩
end Go.Proofs.YtlhonpmpchkkfaaGreatDoor
