import Derived.Test.YtlhonpmpchkkfaaGreatDoorGP
import Derived.Test.YtlhonpmpchkkfaaGreatDoorGK
import Derived.RegionTactic
set_option linter.unusedSimpArgs false
set_option linter.unusedVariables false
/- The three functions that FnDot asks. -/
namespace Go.Proofs.YtlhonpmpchkkfaaGreatDoor
open Go.RowKit
open Fl
open Ieee (double)
set_option maxRecDepth 100000 in
set_option maxHeartbeats 2000000 in
theorem ask_turn (S : Nat → Prop) (g cap : Nat) (xs : List Int) (w : World) (hv : RowOf EM 5 w S g 0 [one xs]) (h0 : 0 < xs.length) (h30 : xs.length ≤ 30) (hx : ∀ x ∈ xs, x.natAbs ≤ 99) :
    Calls Tryz.prog 6 #[.func (.func 7) #[] #[], .slice (some ⟨g, 0, none⟩) 1 cap] w fun e w' => ∃ R cap', e = .returned (.agg #[.int .i64 5, .float .f64 0, .string mt, .slice (some ⟨R, 0, none⟩) 1 cap']) ∧ RowOf (ESl (ENum iN) 4) 1 w' (fun b => w.heap.size ≤ b) R 0 [xs] ∧ Fr w w' := by
  have hb53 : ∀ {l : List Int}, (∀ x ∈ l, x.natAbs ≤ 99) → ∀ x ∈ l, x.natAbs < 2 ^ 53 := fun h x hx => by have := h x hx; omega
  have HA := Lib.hid (fun W h => all_gen lie_em lie_ei S g cap [one xs] W h (by simp) (by simp) (fun m hm => by simp at hm; subst hm; exact ofC_mat _ (fit_one h0 h30 (hb53 hx))))
  rw [show ([one xs] : List (List (List Int))).length = 1 from rfl] at HA
  have HT := Lib.hid (fun g cap W S h => implTRANSPOSE_col S g cap xs W h h0 h30 (hb53 hx))
  have Hv := Lib.hid hv; clear hv
  clear h0 h30 hx hb53
  go_enter Tryz.func6, Tryz.ntmps6
  go_wp2_with fail
  refine (HA.out _ (Hv.out.fr lie_em (by repeat (first | (with_reducible exact Fr.refl _) | ((with_reducible refine Fr.set ?_ ?_ _); focus (simp; done)) | (with_reducible refine Fr.alloc ?_ _) | (with_reducible refine Fr.drew ?_) | (with_reducible refine Fr.step ?_ (by assumption)))))).mono ?_
  rintro e w1 ⟨g1, c1, rfl, hr1, hf1⟩
  have HR1 := Lib.hid hr1; clear hr1
  have hsz1 := hf1.size
  (try simp at hsz1)
  obtain ⟨hc1, hz1⟩ := hf1.cells
  (try simp at hc1); (try simp at hz1)
  have l1 : w.heap.size < w1.heap.size := by omega
  go_wp2_with fail
  refine (HT.out g1 c1 _ _ HR1.out).mono ?_
  rintro e w2 ⟨R2, c2, rfl, hr2, hf2⟩
  have LI := lie_sl (lie_num iN) 4
  have HR2 := Lib.hid hr2; clear hr2
  have hsz2 := hf2.size
  obtain ⟨hc2, hz2⟩ := hf2.cells
  have l2 : w.heap.size < w2.heap.size := by omega
  go_wp2
  exact bodyPost_ret (v := .agg #[.int .i64 5, .float .f64 0, .string mt, .slice (some ⟨R2, 0, none⟩) 1 c2]) (by simp [results, Tryz.results6, go_sem, sv, mt, *]) rfl ⟨R2, c2, rfl, by
    refine RowOf.mono LI (S := fun b => w.heap.size + 1 ≤ b) ?_ (fun b (h : w.heap.size + 1 ≤ b) => by omega)
    (iterate 4 refine RowOf.low LI ?_ _ _ (by simp))
    exact HR2.out.mono LI (fun b (h : w1.heap.size ≤ b) => by omega), (by repeat (first | (with_reducible exact Fr.refl _) | ((with_reducible refine Fr.set ?_ ?_ _); focus (simp; done)) | (with_reducible refine Fr.alloc ?_ _) | (with_reducible refine Fr.drew ?_) | (with_reducible refine Fr.step ?_ (by assumption))))⟩
set_option maxRecDepth 100000 in
set_option maxHeartbeats 2000000 in
theorem ask_prod (S : Nat → Prop) (g cap : Nat) (xs ys : List Int) (w : World) (hv : RowOf EM 5 w S g 0 [one xs, one ys]) (h0 : 0 < xs.length) (h30 : xs.length ≤ 30) (hxy : ys.length = xs.length) (hx : ∀ x ∈ xs, x.natAbs ≤ 99) (hy : ∀ y ∈ ys, y.natAbs ≤ 99) :
    Calls Tryz.prog 6 #[.func (.func 9) #[] #[], .slice (some ⟨g, 0, none⟩) 2 cap] w fun e w' => e = .returned (iv 1 (fw (dotN xs ys xs.length)) mt) ∧ Fr w w' := by
  have hb53 : ∀ {l : List Int}, (∀ x ∈ l, x.natAbs ≤ 99) → ∀ x ∈ l, x.natAbs < 2 ^ 53 := fun h x hx => by have := h x hx; omega
  have HA := Lib.hid (fun W h => all_gen lie_em lie_ei S g cap [one xs, one ys] W h (by simp) (by simp) (fun m hm => by simp at hm; rcases hm with rfl | rfl; exact ofC_mat _ (fit_one h0 h30 (hb53 hx)); exact ofC_mat _ (fit_one (by omega) (by omega) (hb53 hy))))
  rw [show ([one xs, one ys] : List (List (List Int))).length = 2 from rfl] at HA
  have HT := Lib.hid (fun g cap W S h => implSUMPRODUCT_dot S g cap xs ys W h h0 h30 hxy hx hy)
  have Hv := Lib.hid hv; clear hv
  clear h0 h30 hx hb53 hxy hy
  generalize dotN xs ys xs.length = s at *
  go_enter Tryz.func6, Tryz.ntmps6
  go_wp2_with fail
  refine (HA.out _ (Hv.out.fr lie_em (by repeat (first | (with_reducible exact Fr.refl _) | ((with_reducible refine Fr.set ?_ ?_ _); focus (simp; done)) | (with_reducible refine Fr.alloc ?_ _) | (with_reducible refine Fr.drew ?_) | (with_reducible refine Fr.step ?_ (by assumption)))))).mono ?_
  rintro e w1 ⟨g1, c1, rfl, hr1, hf1⟩
  have HR1 := Lib.hid hr1; clear hr1
  have hsz1 := hf1.size
  (try simp at hsz1)
  obtain ⟨hc1, hz1⟩ := hf1.cells
  (try simp at hc1); (try simp at hz1)
  have l1 : w.heap.size < w1.heap.size := by omega
  go_wp2_with fail
  refine (HT.out g1 c1 _ _ HR1.out).mono ?_
  rintro e w2 ⟨rfl, hf2⟩
  have hsz2 := hf2.size
  obtain ⟨hc2, hz2⟩ := hf2.cells
  have l2 : w.heap.size < w2.heap.size := by omega
  unfold iv
  go_wp2
  exact bodyPost_ret (v := .agg #[.int .i64 1, .float .f64 (fw s), .string mt, .slice none 0 0]) (by simp [results, Tryz.results6, go_sem, sv, mt, *]) rfl ⟨rfl, (by repeat (first | (with_reducible exact Fr.refl _) | ((with_reducible refine Fr.set ?_ ?_ _); focus (simp; done)) | (with_reducible refine Fr.alloc ?_ _) | (with_reducible refine Fr.drew ?_) | (with_reducible refine Fr.step ?_ (by assumption))))⟩
set_option maxRecDepth 100000 in
set_option maxHeartbeats 2000000 in
theorem ask_sq (hV : ValC) (S : Nat → Prop) (g cap : Nat) (xs : List Int) (w : World) (hv : RowOf EM 5 w S g 0 [one xs]) (h0 : 0 < xs.length) (h30 : xs.length ≤ 30) (hx : ∀ x ∈ xs, x.natAbs ≤ 99) (hT3 : T3 w) :
    Calls Tryz.prog 6 #[.func (.func 10) #[] #[], .slice (some ⟨g, 0, none⟩) 1 cap] w fun e w' => e = .returned (iv 1 (fw (dotN xs xs xs.length)) mt) ∧ Fr w w' := by
  have hb53 : ∀ {l : List Int}, (∀ x ∈ l, x.natAbs ≤ 99) → ∀ x ∈ l, x.natAbs < 2 ^ 53 := fun h x hx => by have := h x hx; omega
  have HA := Lib.hid (fun W h => all_gen lie_em lie_ei S g cap [one xs] W h (by simp) (by simp) (fun m hm => by simp at hm; subst hm; exact ofC_mat _ (fit_one h0 h30 (hb53 hx))))
  rw [show ([one xs] : List (List (List Int))).length = 1 from rfl] at HA
  have HT := Lib.hid (fun g cap W S h hT => implSUMSQ_dot hV S g cap xs W h h0 h30 hx hT)
  have Hv := Lib.hid hv; clear hv
  have HT3 := Lib.hid hT3; clear hT3
  clear h0 h30 hx hb53 hV
  generalize dotN xs xs xs.length = s at *
  go_enter Tryz.func6, Tryz.ntmps6
  go_wp2_with fail
  refine (HA.out _ (Hv.out.fr lie_em (by repeat (first | (with_reducible exact Fr.refl _) | ((with_reducible refine Fr.set ?_ ?_ _); focus (simp; done)) | (with_reducible refine Fr.alloc ?_ _) | (with_reducible refine Fr.drew ?_) | (with_reducible refine Fr.step ?_ (by assumption)))))).mono ?_
  rintro e w1 ⟨g1, c1, rfl, hr1, hf1⟩
  have HR1 := Lib.hid hr1; clear hr1
  have HT3w := Lib.hid (HT3.out.fr (show Fr w w1 from (by repeat (first | (with_reducible exact Fr.refl _) | ((with_reducible refine Fr.set ?_ ?_ _); focus (simp; done)) | (with_reducible refine Fr.alloc ?_ _) | (with_reducible refine Fr.drew ?_) | (with_reducible refine Fr.step ?_ (by assumption))))))
  have hsz1 := hf1.size
  (try simp at hsz1)
  obtain ⟨hc1, hz1⟩ := hf1.cells
  (try simp at hc1); (try simp at hz1)
  have l1 : w.heap.size < w1.heap.size := by omega
  go_wp2_with fail
  refine (HT.out g1 c1 _ _ HR1.out HT3w.out).mono ?_
  rintro e w2 ⟨rfl, hf2⟩
  have hsz2 := hf2.size
  obtain ⟨hc2, hz2⟩ := hf2.cells
  have l2 : w.heap.size < w2.heap.size := by omega
  unfold iv
  go_wp2
  exact bodyPost_ret (v := .agg #[.int .i64 1, .float .f64 (fw s), .string mt, .slice none 0 0]) (by simp [results, Tryz.results6, go_sem, sv, mt, *]) rfl ⟨rfl, (by repeat (first | (with_reducible exact Fr.refl _) | ((with_reducible refine Fr.set ?_ ?_ _); focus (simp; done)) | (with_reducible refine Fr.alloc ?_ _) | (with_reducible refine Fr.drew ?_) | (with_reducible refine Fr.step ?_ (by assumption))))⟩
end Go.Proofs.YtlhonpmpchkkfaaGreatDoor
/- A region that draws its order, by one word on its states: each operation keeps it, whatever has come up before. -/
namespace Go.Proofs.YtlhonpmpchkkfaaGreatDoor
open Go.RowKit
/-- The operation i keeps the word J. -/
def StepOk (P : Program) (md : Region.Mode) (Q : Exit → Act → World → Prop) (J : Array Bool → Act → World → Prop) (ops : Array Oper) (i : Nat) (o : Oper) : Prop :=
  ∀ (listed : Array Bool) (a : Act) (w : World), listed.getD i true = false → (∀ e ∈ o.after, Region.binds md e = true → listed.getD e.on false = true) → J listed a w →
    ∀ K' : Act → World → Prop, (∀ a w, J (listed.setIfInBounds i true) a w → K' a w) → if Region.wanted o (yielded ops a.tmps) = true then Oper.wp P o a w K' Q else K' (a.put o.dst undef) w
def StepsOk (P : Program) (md : Region.Mode) (Q : Exit → Act → World → Prop) (J : Array Bool → Act → World → Prop) (ops : Array Oper) (is : List Nat) : Prop :=
  ∀ i ∈ is, ∀ o, ops[i]? = some o → StepOk P md Q J ops i o
theorem StepsOk.nil {P : Program} {ops : Array Oper} {Q : Exit → Act → World → Prop} {md : Region.Mode} {J : Array Bool → Act → World → Prop} : StepsOk P md Q J ops [] := fun _ h => by cases h
theorem StepsOk.cons {P : Program} {ops : Array Oper} {Q : Exit → Act → World → Prop} {md : Region.Mode} {J : Array Bool → Act → World → Prop} {i : Nat} {o : Oper} {is : List Nat} (ho : ops[i]? = some o) (h : StepOk P md Q J ops i o) (hs : StepsOk P md Q J ops is) : StepsOk P md Q J ops (i :: is) := fun j hj o' ho' => by
  rcases List.mem_cons.1 hj with rfl | hj
  · rw [ho] at ho'
    cases ho'
    exact h
  · exact hs j hj o' ho'
theorem count_set {listed : Array Bool} {i : Nat} (h : listed.getD i true = false) : (listed.setIfInBounds i true).toList.count false + 1 = listed.toList.count false := by
  have hi : i < listed.size := by
    rcases Nat.lt_or_ge i listed.size with h' | h'
    · exact h'
    · simp [Array.getElem?_eq_none h'] at h
  have hv : listed.toList[i]? = some false := by
    simp [hi] at h
    simp [hi, h]
  rw [Array.toList_setIfInBounds]
  generalize listed.toList = l at *
  clear h hi
  induction l generalizing i with
  | nil => simp at hv
  | cons b l ih =>
    match i with
    | 0 => simp at hv; subst hv; simp
    | i + 1 =>
      have := ih (by simpa using hv)
      simp only [List.set_cons_succ, List.count_cons]
      omega
/-- Where every edge leads back, a region that is not done has an operation that may come up. -/
theorem ready_of_left {ops : Array Oper} {md : Region.Mode} {listed : Array Bool} (hb : ∀ (i : Nat) (o : Oper), ops[i]? = some o → ∀ e ∈ o.after, e.on < i) (hr : Region.ready md ops listed = []) : ∀ n i, i < n → i < ops.size → listed.getD i false = true ∨ listed.size ≤ i := by
  intro n
  induction n with
  | zero => intro i h; omega
  | succ n ih =>
    intro i hi hs
    rcases Nat.lt_or_ge i listed.size with hl | hl
    · refine .inl ?_
      cases hg : listed.getD i false with
      | true => rfl
      | false =>
        have hg2 : listed.getD i true = false := by simp [hl] at hg ⊢; exact hg
        have hm : i ∈ Region.ready md ops listed := mem_ready.2 ⟨hg2, ops[i], Array.getElem?_eq_getElem hs, fun e he _ => by
          have hlt := hb i _ (Array.getElem?_eq_getElem hs) e he
          rcases ih e.on (by omega) (by omega) with h | h
          · exact h
          · omega⟩
        rw [hr] at hm
        cases hm
    · exact .inr hl
theorem wpAny_inv {P : Program} {ops : Array Oper} {Q : Exit → Act → World → Prop} {md : Region.Mode} (J : Act → Array Bool → Act → World → Prop) {fuel : Nat} {listed : Array Bool} {a0 : Act} {w : World} (is : List Nat) (hsz : List.range ops.size = is) (hls : listed.size = ops.size)
    (hb : ((List.range ops.size).all fun i => ((ops[i]?).map fun o => o.after.all fun e => decide (e.on < i)).getD true) = true) (hf : listed.toList.count false ≤ fuel) (h0 : J a0 listed a0 w)
    (hs : StepsOk P md Q (J a0) ops is) (hd : ∀ (listed : Array Bool) (a : Act) (w : World), (∀ i, i < listed.size → listed.getD i false = true) → J a0 listed a w → Q .normal a w) : wpAny P md ops Q fuel listed a0 w := by
  have hb' : ∀ (i : Nat) (o : Oper), ops[i]? = some o → ∀ e ∈ o.after, e.on < i := fun i o ho e he => by
    have hi : i < ops.size := (Array.getElem?_eq_some_iff.1 ho).1
    have := List.all_eq_true.1 hb i (List.mem_range.2 hi)
    rw [ho] at this
    simp only [Option.map_some, Option.getD_some, Array.all_eq_true_iff_forall_mem] at this
    exact of_decide_eq_true (this e he)
  have key : ∀ (fuel : Nat) (listed : Array Bool) (a : Act) (w : World), listed.size = ops.size → listed.toList.count false ≤ fuel → J a0 listed a w → wpAny P md ops Q fuel listed a w := by
    intro fuel
    have hfin : ∀ (listed : Array Bool) (a : Act) (w : World), listed.size = ops.size → J a0 listed a w → Region.ready md ops listed = [] → Q .normal a w := fun listed a w hl hJ hr => by
      refine hd listed a w (fun i hi => ?_) hJ
      rcases ready_of_left hb' hr (i + 1) i (by omega) (by omega) with h | h
      · exact h
      · omega
    induction fuel with
    | zero =>
      intro listed a w hl hc hJ
      have hr : Region.ready md ops listed = [] := by
        cases hr : Region.ready md ops listed with
        | nil => rfl
        | cons i l =>
          have hm : i ∈ Region.ready md ops listed := by rw [hr]; simp
          have := count_set (mem_ready.1 hm).1
          omega
      exact ⟨hr, hfin listed a w hl hJ hr⟩
    | succ fuel ih =>
      intro listed a w hl hc hJ
      refine ⟨hfin listed a w hl hJ, fun i hi => ?_⟩
      obtain ⟨h1, o, ho, hall⟩ := mem_ready.1 hi
      have hio : i < ops.size := (Array.getElem?_eq_some_iff.1 ho).1
      have hmi : i ∈ is := by rw [← hsz]; exact List.mem_range.2 hio
      have hcs := count_set h1
      refine wpOp_step ho fun K' hK => hs i hmi o ho listed a w h1 hall hJ K' fun a w hJ' => hK a w (ih _ a w (by simpa using hl) (by omega) hJ')
  exact key fuel listed a0 w hls hf h0
end Go.Proofs.YtlhonpmpchkkfaaGreatDoor
