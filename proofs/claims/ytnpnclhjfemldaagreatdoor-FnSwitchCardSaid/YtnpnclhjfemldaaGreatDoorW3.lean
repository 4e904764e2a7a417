import Derived.Test.YtnpnclhjfemldaaGreatDoorW2
import Derived.Test.YtnpnclhjfemldaaGreatDoorN13
set_option linter.unusedSimpArgs false
set_option linter.unusedVariables false
/- What the reference's SWITCH chooses. -/
namespace Go.Proofs.YtnpnclhjfemldaaGreatDoor
open Go.RowKit
def refV : Option Int → Value
  | some v => sv 1 v 1 mt
  | none => sv 4 0 0 naE
set_option maxRecDepth 100000 in
set_option maxHeartbeats 1000000 in
theorem plainly_num (n : Int) (w : World) : Calls Tryz.prog 196 #[sv 1 n 1 mt, .slice none 0 0] w fun e w' => e = .returned (sv 1 n 1 mt) ∧ Fr w w' := by
  have HF := Lib.hid (fun w => First_none none 0 [] w ⟨by simp, fun h => absurd h (by simp)⟩ (fun x hx => by simp at hx))
  simp only [List.length_nil] at HF
  unfold sv at *
  go_enter Tryz.func196, Tryz.ntmps196
  go_wp2_with fail
  refine (HF.out _).mono ?_
  rintro e w1 ⟨rfl, hf1⟩
  have hlt1 := hf1.size
  simp at hlt1
  obtain ⟨hc1, hz1⟩ := hf1.cells
  simp at hc1 hz1
  have h01 : w.heap.size < w1.heap.size := by omega
  have h02 : w.heap.size + 1 < w1.heap.size := by omega
  go_wp2
  exact bodyPost_ret (v := .agg #[.int .i64 1, .int .i64 n, .int .i64 1, .string mt, .slice none 0 0]) (by simp [results, Tryz.results196, go_sem, sv, mt, *]) rfl ⟨rfl, (by repeat (first | (with_reducible exact Fr.refl _) | ((with_reducible refine Fr.set ?_ ?_ _); focus (simp; done)) | (with_reducible refine Fr.alloc ?_ _) | (with_reducible refine Fr.drew ?_) | (with_reducible refine Fr.step ?_ (by assumption))))⟩
theorem same_num (n m : Int) : sameB 1 n 1 mt 1 m 1 mt = decide (n = m) := by
  unfold sameB
  by_cases h : n = m
  · subst h; simp
  · simp [h]
theorem Same_eq (n m : Int) (h : n = m) (w : World) : Calls Tryz.prog 148 #[sv 1 n 1 mt, sv 1 m 1 mt] w fun e w' => e = .returned (.bool true) ∧ Fr w w' := by
  have := Same_any 1 n 1 mt 1 m 1 mt w
  rwa [same_num, show decide (n = m) = true from decide_eq_true h] at this
theorem Same_ne (n m : Int) (h : ¬ n = m) (w : World) : Calls Tryz.prog 148 #[sv 1 n 1 mt, sv 1 m 1 mt] w fun e w' => e = .returned (.bool false) ∧ Fr w w' := by
  have := Same_any 1 n 1 mt 1 m 1 mt w
  rwa [same_num, show decide (n = m) = false from decide_eq_false h] at this
theorem nv_at {w : World} {A : Option Addr} {a : List Int} (hv : VL w A (a.map nv)) (i : Nat) (hi : i < a.length) :
    ∃ g, A = some ⟨g, 0, none⟩ ∧ g < w.heap.size ∧ w.cell? ⟨g, i * 5, none⟩ = some (.int .i64 1) ∧ w.cell? ⟨g, i * 5 + 1, none⟩ = some (.int .i64 (a.getD i 0)) ∧
      w.cell? ⟨g, i * 5 + 2, none⟩ = some (.int .i64 1) ∧ w.cell? ⟨g, i * 5 + 3, none⟩ = some (.string mt) ∧ w.cell? ⟨g, i * 5 + 4, none⟩ = some (.slice none 0 0) := by
  have hi' : i < (a.map nv).length := by simpa using hi
  have he : (a.map nv)[i] = nv (a.getD i 0) := by rw [List.getElem_map, List.getD_eq_getElem?_getD, List.getElem?_eq_getElem hi]; rfl
  have := hv.at hi'
  rw [he] at this
  exact this
set_option maxRecDepth 100000 in
set_option maxHeartbeats 10000000 in
theorem chosenBy_num (A : Option Addr) (cap : Nat) (a : List Int) (w : World) (hv : VL w A (a.map nv)) (h3 : 3 ≤ a.length) (h32 : a.length ≤ 32) :
    Calls Tryz.prog 105 #[.slice A a.length cap] w fun e w' => e = .returned (refV (swVal (fun i => a.getD i 0) a.length)) ∧ Fr w w' := by
  have hk : ∀ x ∈ a.map nv, x.k ≠ 4 ∧ x.k ≠ 5 ∧ x.k ≠ 6 := by intro x hx; obtain ⟨n, _, rfl⟩ := List.mem_map.1 hx; simp [nv]
  have HF := Lib.hid (fun w hv => First_none A cap (a.map nv) w hv hk)
  rw [List.length_map] at HF
  have Hv := Lib.hid hv; clear hv
  have HA := Lib.hid (fun (W : World) (hW : Fr w W) (i : Nat) (hi : i < a.length) => nv_at (Hv.out.fr hW) i hi)
  obtain ⟨g, hg⟩ : ∃ g : Nat → Int, g = fun i => a.getD i 0 := ⟨_, rfl⟩
  have hgi : ∀ i, a.getD i 0 = g i := fun i => by rw [hg]
  rw [← hg]
  simp only [hgi] at HA
  clear hg hgi hk
  obtain ⟨m, hm⟩ : ∃ m, m = a.length := ⟨_, rfl⟩
  rw [← hm] at HF HA h3 h32 ⊢
  clear hm
  have hmi : ¬ (m : Int) < 3 := by omega
  obtain ⟨G, rfl, hG, c0, c1, c2, c3, c4⟩ := HA.out w (Fr.refl w) 0 (by omega)
  simp only [Nat.zero_mul, Nat.zero_add] at c0 c1 c2 c3 c4
  have HC := Lib.hid (fun (W : World) (hW : Fr w W) (i : Nat) (hi : i < m) => by
    obtain ⟨G', hG', _, d⟩ := HA.out W hW i hi
    simp only [Option.some.injEq, Addr.mk.injEq, and_true] at hG'
    subst hG'
    exact d)
  clear HA
  unfold sv at HF
  go_enter Tryz.func105, Tryz.ntmps105
  go_wp2_with fail
  refine (HF.out _ (Hv.out.fr (by repeat (first | (with_reducible exact Fr.refl _) | ((with_reducible refine Fr.set ?_ ?_ _); focus (simp; done)) | (with_reducible refine Fr.alloc ?_ _) | (with_reducible refine Fr.drew ?_) | (with_reducible refine Fr.step ?_ (by assumption)))))).mono ?_
  rintro e w1 ⟨rfl, hf1⟩
  have hlt1 := hf1.size
  simp at hlt1
  obtain ⟨hc1, hz1⟩ := hf1.cells
  simp at hc1 hz1
  have h01 : w.heap.size < w1.heap.size := by omega
  have hG1 : G < w1.heap.size := by omega
  have hfw1 : Fr w w1 := (by repeat (first | (with_reducible exact Fr.refl _) | ((with_reducible refine Fr.set ?_ ?_ _); focus (simp; done)) | (with_reducible refine Fr.alloc ?_ _) | (with_reducible refine Fr.drew ?_) | (with_reducible refine Fr.step ?_ (by assumption))))
  have hZ0 : w1.heap[w.heap.size]? = some (.cells #[.int .i64 0, .int .i64 0, .int .i64 0, .string ⟨#[]⟩, .slice none 0 0] 25 (0, 0)) := (hf1.block _ (by simp)).trans (heap_alloc_new w _)
  obtain ⟨h, hh⟩ : ∃ h, h = (m - 1) / 2 := ⟨_, rfl⟩
  have Hh := Lib.hid hh; clear hh
  go_wp2_with fail
  clear hf1 hc1 hz1
  go_loopw [6] (fun i wr => ∃ q : Nat, 2 * q ≤ m ∧ i = .int .i64 (2 * q + 1) ∧ wr.heap[w1.heap.size + 1]? = some (.cells #[.int .i64 1, .int .i64 (g 0), .int .i64 1, .string mt, .slice none 0 0] 25 (0, 0)) ∧ wr.heap[w.heap.size]? = some (.cells #[.int .i64 0, .int .i64 0, .int .i64 0, .string ⟨#[]⟩, .slice none 0 0] 25 (0, 0)) ∧ Fr w wr) (fun i _ => m + 1 - (intOf i).toNat)
  case atStart =>
    refine ⟨0, by omega, rfl, ?_, ?_, ?_⟩
    · have := heap_alloc_new (w1.alloc (.cells #[.int .i64 0, .int .i64 0, .int .i64 0, .string mt, .slice none 0 0] 25)) (.cells #[.int .i64 1, .int .i64 (g 0), .int .i64 1, .string mt, .slice none 0 0] 25)
      simpa using this
    · exact ((((Fr.refl w1).alloc _).alloc _).block _ (by omega)).trans hZ0
    · exact (hfw1.alloc _).alloc _
  case round =>
    obtain ⟨q, hq, rfl, hV, hZ, hf⟩ := hrel
    have hVl : w1.heap.size + 1 < wr.heap.size := (Array.getElem?_eq_some_iff.1 hV).1
    obtain ⟨cV, zV⟩ := obj_rules hV
    obtain ⟨cZ, zZ⟩ := obj_rules hZ
    have hmb : (q : Int) ≤ 16 := by omega
    by_cases hlt : 2 * q + 2 < m
    · have hli : (2 * (q : Int) + 1) + 1 < (m : Int) := by omega
      obtain ⟨d0, d1, d2, d3, d4⟩ := HC.out wr hf (2 * q + 1) (by omega)
      have hidx : (2 * (q : Int) + 1).toNat = 2 * q + 1 := by omega
      have hGw : G < wr.heap.size := by omega
      go_wp2_with fail
      go_quiet (fail)
      go_wp2
      exact ⟨⟨q + 1, by omega, by rw [show (2 * (q : Int) + 1 + 2) = 2 * ((q + 1 : Nat) : Int) + 1 by omega], hV, hZ, hf.drewN _⟩, by simp [intOf]; omega⟩
    · have hli : ¬ (2 * (q : Int) + 1) + 1 < (m : Int) := by omega
      go_wp2_with fail
      go_loopw [7] (fun i wr => ∃ q : Nat, q ≤ h ∧ i = .int .i64 (2 * q + 1) ∧ pick g (h - q) q = pick g h 0 ∧ wr.heap[w1.heap.size + 1]? = some (.cells #[.int .i64 1, .int .i64 (g 0), .int .i64 1, .string mt, .slice none 0 0] 25 (0, 0)) ∧ wr.heap[w.heap.size]? = some (.cells #[.int .i64 0, .int .i64 0, .int .i64 0, .string ⟨#[]⟩, .slice none 0 0] 25 (0, 0)) ∧ Fr w wr) (fun i _ => m + 1 - (intOf i).toNat)
      case atStart => exact ⟨0, Nat.zero_le _, rfl, rfl, hV, hZ, hf⟩
      case round =>
        clear hq hli hlt hmb cV zV cZ zZ hV hZ hf hVl
        obtain ⟨q, hq, rfl, hpk, hV, hZ, hf⟩ := hrel
        have hVl : w1.heap.size + 1 < wr.heap.size := (Array.getElem?_eq_some_iff.1 hV).1
        obtain ⟨cV, zV⟩ := obj_rules hV
        obtain ⟨cZ, zZ⟩ := obj_rules hZ
        have hmb : (q : Int) ≤ 16 := by have := Hh.out; omega
        by_cases hqh : q < h
        · have hli : (2 * (q : Int) + 1) + 1 < (m : Int) := by have := Hh.out; omega
          obtain ⟨d0, d1, d2, d3, d4⟩ := HC.out wr hf (2 * q + 1) (by have := Hh.out; omega)
          have hidx : (2 * (q : Int) + 1).toNat = 2 * q + 1 := by omega
          have hGw : G < wr.heap.size := by omega
          have hbx0 : (0 : Int) ≤ 2 * (q : Int) + 1 := by omega
          have hbx1 : 2 * (q : Int) + 1 < (m : Int) := by omega
          have hbx2 : ¬ 2 * (q : Int) + 1 < 0 := by omega
          have hbx3 : ¬ (m : Int) ≤ 2 * (q : Int) + 1 := by omega
          obtain ⟨k, hk⟩ : ∃ k, h - q = k + 1 := ⟨h - q - 1, by omega⟩
          rw [hk] at hpk
          simp only [pick] at hpk
          by_cases hkey : g (2 * q + 1) = g 0
          · have hmatch : swVal g m = some (g (2 * q + 2)) := by unfold swVal; rw [← Hh.out, ← hpk, if_pos hkey]
            have HM := Lib.hid hmatch
            clear hpk hk hmatch
            go_wp2_with fail
            refine wp_region_any (by kernel_rfl) ?_
            change wpAny _ _ _ _ _ _ _ (World.drew _)
            refine wpAny_take (i := 0) (v := .slice (some ⟨G, 0, none⟩) m cap) rfl (by kernel_rfl) (by kernel_rfl) (by kernel_rfl) (fun _ _ _ h => h) (Or.inl ⟨by rfl, fun W => by first | (go_simp; done) | (go_simp; decide)⟩) ?_
            refine wpAny_take (i := 1) (v := .int .i64 (2 * (q : Int) + 1)) rfl (by kernel_rfl) (by kernel_rfl) (by kernel_rfl) (fun _ _ _ h => h) (Or.inl ⟨by rfl, fun W => by first | (go_simp; done) | (go_simp; decide)⟩) ?_
            refine wpAny_take (i := 2) (v := .pointer (some ⟨G, (2 * q + 1) * 5, none⟩)) rfl (by kernel_rfl) (by kernel_rfl) (by kernel_rfl) (fun _ _ _ h => h) (Or.inl ⟨by rfl, fun W => by first | (go_simp; done) | (go_simp; decide)⟩) ?_
            refine wpAny_ready (rs := [3, 4]) (by kernel_rfl) (by simp) ?_
            refine AllReady.cons rfl (fun K hK => ?_) (AllReady.cons rfl (fun K hK => ?_) AllReady.nil)
            · go_simp; refine hK _ _ ?_; clear hK K
              refine wpAny_ready (rs := [4]) (by kernel_rfl) (by simp) ?_; refine AllReady.cons rfl (fun K hK => ?_) AllReady.nil; go_simp; refine hK _ _ ?_; clear hK K
              refine wpAny_ready (rs := [5]) (by kernel_rfl) (by simp) ?_; refine AllReady.cons rfl (fun K hK => ?_) AllReady.nil; go_simp
              go_wp2_with (go_at_call 148; refine (Same_eq (g 0) (g 0) rfl _).mono ?_; rintro e w5 ⟨rfl, hf5⟩)
              have hf5r : Fr wr w5 := (by repeat (first | (with_reducible exact Fr.refl _) | ((with_reducible refine Fr.set ?_ ?_ _); focus (simp; done)) | (with_reducible refine Fr.alloc ?_ _) | (with_reducible refine Fr.drew ?_) | (with_reducible refine Fr.step ?_ (by assumption))))
              clear hf5
              refine wpAny_done (by kernel_rfl) ?_ _
              have hf5w : Fr w w5 := hf.step hf5r
              obtain ⟨x0, x1, x2, x3, x4⟩ := HC.out w5 hf5w (2 * q + 2) (by have := Hh.out; omega)
              obtain ⟨cZ5, zZ5⟩ := obj_rules ((hf5r.block _ (by omega)).trans hZ)
              have hs5 := hf5r.size
              have hG5 : G < w5.heap.size := by omega
              have hix : (2 * (q : Int) + 1 + 1).toNat = 2 * q + 2 := by omega
              go_wp2_with fail
              refine (plainly_num (g (2 * q + 2)) _).mono ?_
              rintro e w6 ⟨rfl, hf6⟩
              have hf6w : Fr w w6 := hf5w.step hf6
              obtain ⟨cZ6, zZ6⟩ := obj_rules ((hf6.block _ (by omega)).trans ((hf5r.block _ (by omega)).trans hZ))
              unfold sv
              go_wp2
              refine bodyPost_ret (v := .agg #[.int .i64 1, .int .i64 (g (2 * q + 2)), .int .i64 1, .string mt, .slice none 0 0]) (by simp [results, Tryz.results105, go_sem, mt, *]) rfl ⟨?_, ?_⟩
              · rw [HM.out]; rfl
              · repeat (first | (with_reducible exact hf6w) | ((with_reducible refine Fr.set ?_ ?_ _); focus (simp; done)) | ((with_reducible refine Fr.set ?_ ?_ _); focus (simp; omega)) | (with_reducible refine Fr.drew ?_))
            · go_simp; refine hK _ _ ?_; clear hK K
              refine wpAny_ready (rs := [3]) (by kernel_rfl) (by simp) ?_; refine AllReady.cons rfl (fun K hK => ?_) AllReady.nil; go_simp; refine hK _ _ ?_; clear hK K
              refine wpAny_ready (rs := [5]) (by kernel_rfl) (by simp) ?_; refine AllReady.cons rfl (fun K hK => ?_) AllReady.nil; go_simp
              go_wp2_with (go_at_call 148; refine (Same_eq (g 0) (g 0) rfl _).mono ?_; rintro e w5 ⟨rfl, hf5⟩)
              have hf5r : Fr wr w5 := (by repeat (first | (with_reducible exact Fr.refl _) | ((with_reducible refine Fr.set ?_ ?_ _); focus (simp; done)) | (with_reducible refine Fr.alloc ?_ _) | (with_reducible refine Fr.drew ?_) | (with_reducible refine Fr.step ?_ (by assumption))))
              clear hf5
              refine wpAny_done (by kernel_rfl) ?_ _
              have hf5w : Fr w w5 := hf.step hf5r
              obtain ⟨x0, x1, x2, x3, x4⟩ := HC.out w5 hf5w (2 * q + 2) (by have := Hh.out; omega)
              obtain ⟨cZ5, zZ5⟩ := obj_rules ((hf5r.block _ (by omega)).trans hZ)
              have hs5 := hf5r.size
              have hG5 : G < w5.heap.size := by omega
              have hix : (2 * (q : Int) + 1 + 1).toNat = 2 * q + 2 := by omega
              go_wp2_with fail
              refine (plainly_num (g (2 * q + 2)) _).mono ?_
              rintro e w6 ⟨rfl, hf6⟩
              have hf6w : Fr w w6 := hf5w.step hf6
              obtain ⟨cZ6, zZ6⟩ := obj_rules ((hf6.block _ (by omega)).trans ((hf5r.block _ (by omega)).trans hZ))
              unfold sv
              go_wp2
              refine bodyPost_ret (v := .agg #[.int .i64 1, .int .i64 (g (2 * q + 2)), .int .i64 1, .string mt, .slice none 0 0]) (by simp [results, Tryz.results105, go_sem, mt, *]) rfl ⟨?_, ?_⟩
              · rw [HM.out]; rfl
              · repeat (first | (with_reducible exact hf6w) | ((with_reducible refine Fr.set ?_ ?_ _); focus (simp; done)) | ((with_reducible refine Fr.set ?_ ?_ _); focus (simp; omega)) | (with_reducible refine Fr.drew ?_))
          · have hnext : pick g (h - (q + 1)) (q + 1) = pick g h 0 := by rw [if_neg hkey] at hpk; rw [show h - (q + 1) = k by omega]; exact hpk
            clear hpk hk
            go_wp2_with fail
            refine wp_region_any (by kernel_rfl) ?_
            change wpAny _ _ _ _ _ _ _ (World.drew _)
            refine wpAny_take (i := 0) (v := .slice (some ⟨G, 0, none⟩) m cap) rfl (by kernel_rfl) (by kernel_rfl) (by kernel_rfl) (fun _ _ _ h => h) (Or.inl ⟨by rfl, fun W => by first | (go_simp; done) | (go_simp; decide)⟩) ?_
            refine wpAny_take (i := 1) (v := .int .i64 (2 * (q : Int) + 1)) rfl (by kernel_rfl) (by kernel_rfl) (by kernel_rfl) (fun _ _ _ h => h) (Or.inl ⟨by rfl, fun W => by first | (go_simp; done) | (go_simp; decide)⟩) ?_
            refine wpAny_take (i := 2) (v := .pointer (some ⟨G, (2 * q + 1) * 5, none⟩)) rfl (by kernel_rfl) (by kernel_rfl) (by kernel_rfl) (fun _ _ _ h => h) (Or.inl ⟨by rfl, fun W => by first | (go_simp; done) | (go_simp; decide)⟩) ?_
            refine wpAny_ready (rs := [3, 4]) (by kernel_rfl) (by simp) ?_
            refine AllReady.cons rfl (fun K hK => ?_) (AllReady.cons rfl (fun K hK => ?_) AllReady.nil)
            · go_simp; refine hK _ _ ?_; clear hK K
              refine wpAny_ready (rs := [4]) (by kernel_rfl) (by simp) ?_; refine AllReady.cons rfl (fun K hK => ?_) AllReady.nil; go_simp; refine hK _ _ ?_; clear hK K
              refine wpAny_ready (rs := [5]) (by kernel_rfl) (by simp) ?_; refine AllReady.cons rfl (fun K hK => ?_) AllReady.nil; go_simp
              go_wp2_with (go_at_call 148; refine (Same_ne _ _ hkey _).mono ?_; rintro e w5 ⟨rfl, hf5⟩)
              have hf5r : Fr wr w5 := (by repeat (first | (with_reducible exact Fr.refl _) | ((with_reducible refine Fr.set ?_ ?_ _); focus (simp; done)) | (with_reducible refine Fr.alloc ?_ _) | (with_reducible refine Fr.drew ?_) | (with_reducible refine Fr.step ?_ (by assumption))))
              clear hf5
              refine wpAny_done (by kernel_rfl) ?_ _
              have hV5 := (hf5r.block _ (by omega)).trans hV
              have hZ5 := (hf5r.block _ (by omega)).trans hZ
              go_wp2
              first | exact ⟨⟨q + 1, by omega, by rw [show (2 * (q : Int) + 1 + 2) = 2 * ((q + 1 : Nat) : Int) + 1 by omega], hnext, hV5, hZ5, hf.step hf5r⟩, by simp [intOf]; omega⟩ | (go_roundw; (case rel => exact ⟨q + 1, by omega, by rw [show (2 * (q : Int) + 1 + 2) = 2 * ((q + 1 : Nat) : Int) + 1 by omega], hnext, hV5, hZ5, hf.step hf5r⟩); (case measure => simp [intOf]; omega))
            · go_simp; refine hK _ _ ?_; clear hK K
              refine wpAny_ready (rs := [3]) (by kernel_rfl) (by simp) ?_; refine AllReady.cons rfl (fun K hK => ?_) AllReady.nil; go_simp; refine hK _ _ ?_; clear hK K
              refine wpAny_ready (rs := [5]) (by kernel_rfl) (by simp) ?_; refine AllReady.cons rfl (fun K hK => ?_) AllReady.nil; go_simp
              go_wp2_with (go_at_call 148; refine (Same_ne _ _ hkey _).mono ?_; rintro e w5 ⟨rfl, hf5⟩)
              have hf5r : Fr wr w5 := (by repeat (first | (with_reducible exact Fr.refl _) | ((with_reducible refine Fr.set ?_ ?_ _); focus (simp; done)) | (with_reducible refine Fr.alloc ?_ _) | (with_reducible refine Fr.drew ?_) | (with_reducible refine Fr.step ?_ (by assumption))))
              clear hf5
              refine wpAny_done (by kernel_rfl) ?_ _
              have hV5 := (hf5r.block _ (by omega)).trans hV
              have hZ5 := (hf5r.block _ (by omega)).trans hZ
              go_wp2
              first | exact ⟨⟨q + 1, by omega, by rw [show (2 * (q : Int) + 1 + 2) = 2 * ((q + 1 : Nat) : Int) + 1 by omega], hnext, hV5, hZ5, hf.step hf5r⟩, by simp [intOf]; omega⟩ | (go_roundw; (case rel => exact ⟨q + 1, by omega, by rw [show (2 * (q : Int) + 1 + 2) = 2 * ((q + 1 : Nat) : Int) + 1 by omega], hnext, hV5, hZ5, hf.step hf5r⟩); (case measure => simp [intOf]; omega))
        · have hqe := Lib.hid (show q = h by omega)
          have hli : ¬ (2 * (q : Int) + 1) + 1 < (m : Int) := by have := Hh.out; omega
          have hGw : G < wr.heap.size := by omega
          by_cases hpar : m % 2 = 0
          · have hpi : (m : Int) % 2 = 0 := by omega
            have hend : swVal g m = some (g (m - 1)) := by
              rw [hqe.out, Nat.sub_self] at hpk
              unfold swVal
              rw [← Hh.out, ← hpk]
              simp only [pick]
              simp; omega
            have Hend := Lib.hid hend
            clear hend hpk
            obtain ⟨x0, x1, x2, x3, x4⟩ := HC.out wr hf (m - 1) (by omega)
            have hix : ((m : Int) - 1).toNat = m - 1 := by omega
            go_wp2_with fail
            refine (plainly_num (g (m - 1)) _).mono ?_
            rintro e w6 ⟨rfl, hf6⟩
            have hf6w : Fr w w6 := hf.step hf6
            obtain ⟨cZ6, zZ6⟩ := obj_rules ((hf6.block _ (by omega)).trans hZ)
            unfold sv
            go_wp2
            refine bodyPost_ret (v := .agg #[.int .i64 1, .int .i64 (g (m - 1)), .int .i64 1, .string mt, .slice none 0 0]) (by simp [results, Tryz.results105, go_sem, mt, *]) rfl ⟨?_, ?_⟩
            · rw [Hend.out]; rfl
            · repeat (first | (with_reducible exact hf6w) | ((with_reducible refine Fr.set ?_ ?_ _); focus (simp; done)) | ((with_reducible refine Fr.set ?_ ?_ _); focus (simp; omega)) | (with_reducible refine Fr.drew ?_))
          · have hpi : (m : Int) % 2 = 1 := by omega
            have hend : swVal g m = none := by
              rw [hqe.out, Nat.sub_self] at hpk
              unfold swVal
              rw [← Hh.out, ← hpk]
              simp only [pick]
              simp; omega
            have Hend := Lib.hid hend
            clear hend hpk
            go_wp2_with fail
            refine (Err_any naE _).mono ?_
            rintro e w6 ⟨rfl, hf6⟩
            have hf6w : Fr w w6 := hf.step hf6
            obtain ⟨cZ6, zZ6⟩ := obj_rules ((hf6.block _ (by omega)).trans hZ)
            unfold sv
            go_wp2
            refine bodyPost_ret (v := .agg #[.int .i64 4, .int .i64 0, .int .i64 0, .string naE, .slice none 0 0]) (by simp [results, Tryz.results105, go_sem, mt, *]) rfl ⟨?_, ?_⟩
            · rw [Hend.out]; rfl
            · repeat (first | (with_reducible exact hf6w) | ((with_reducible refine Fr.set ?_ ?_ _); focus (simp; done)) | ((with_reducible refine Fr.set ?_ ?_ _); focus (simp; omega)) | (with_reducible refine Fr.drew ?_))
end Go.Proofs.YtnpnclhjfemldaaGreatDoor
