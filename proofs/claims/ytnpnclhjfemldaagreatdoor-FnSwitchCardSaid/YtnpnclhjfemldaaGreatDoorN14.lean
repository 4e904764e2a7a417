import Derived.Test.YtnpnclhjfemldaaGreatDoorN13
set_option linter.unusedSimpArgs false
set_option linter.unusedVariables false
/- SWITCH over whole numbers. -/
namespace Go.Proofs.YtnpnclhjfemldaaGreatDoor
open Go.RowKit
open Fl
open Ieee (double)
set_option maxRecDepth 100000 in
set_option maxHeartbeats 4000000 in
theorem SWITCHm_odd (hM : MulC) (hLc : LenC) (hNc : NumC) (hFc : FmtC) (f : Value) (w : World) (p : Nat) (bs : List Nat) (a : List Int) (hL : LS w p bs (a.map numFa)) (h3 : 3 ≤ a.length) (h32 : a.length ≤ 32)
    (hkey : ∀ i, (i = 0 ∨ i % 2 = 1 ∧ i + 1 < a.length) → (a.getD i 0).natAbs < 1000000) (hpar0 : (a.length - 1) % 2 = 1) (ht : PT w) (hd : DT w) :
    Calls Tryz.prog 22 #[f, .pointer (some ⟨p, 0, none⟩)] w fun e w' => e = .returned (optFa (swVal (fun i => a.getD i 0) a.length)) ∧ Fr w w' := by
  have hlen : bs.length = a.length := by have := hL.len; simpa using this
  have HL := Lib.hid hL; clear hL
  have HV := Lib.hid (fun n w hn ht hd => Value_num hM hLc hNc hFc n w hn ht hd)
  have Ht := Lib.hid ht; clear ht
  have Hd := Lib.hid hd; clear hd
  have Hkey := Lib.hid hkey; clear hkey
  clear hM hLc hNc hFc
  obtain ⟨c, hc⟩ : ∃ c, c + 1 = a.length := ⟨a.length - 1, by omega⟩
  have Hm := Lib.hid hc
  have Hbm := Lib.hid (show bs.length = c + 1 by rw [hlen, hc])
  have hpar : c % 2 = 1 := by omega
  rw [← hc] at h3 h32
  clear hc hlen hpar0
  have h0 : 0 < bs.length := by rw [Hbm.out]; omega
  have hfl : floatOfInt .f64 (c : Int) = fw c := floatOfInt_fw _ (by omega)
  have hhr := half_run c (by omega)
  have HFl := Lib.hid (fun w => Floor_half c (by omega) w)
  obtain ⟨h, hh⟩ : ∃ h, h = c / 2 := ⟨_, rfl⟩
  have hwr := whole_run (c / 2) (by omega)
  rw [← hh] at hwr HFl
  have hh0 : 0 < h := by omega
  have hh0i : (0 : Int) < (h : Int) := by omega
  have hh0d : decide (0 < h) = true := decide_eq_true hh0
  have Hh := Lib.hid hh; clear hh
  have hb0 : ptrAt bs 0 = .pointer (some ⟨bs[0], 0, none⟩) := by unfold ptrAt; rw [List.getElem?_eq_getElem h0]
  have HE := Lib.hid (fun (W : World) (hW : Fr w W) (i : Nat) (hi : i < bs.length) => elFa (HL.out.fr hW) i hi)
  obtain ⟨g, hg⟩ : ∃ g : Nat → Int, g = fun i => a.getD i 0 := ⟨_, rfl⟩
  have hgi : ∀ i, a.getD i 0 = g i := fun i => by rw [hg]
  have Hgi := Lib.hid hgi
  rw [← hg]
  simp only [hgi] at HE Hkey
  clear hg hgi
  have c3 := HE.out w (Fr.refl w) 0 h0
  have hbs := (HL.out.hb _ (List.getElem_mem h0)).2
  go_enter Tryz.func22, Tryz.ntmps22
  go_wp2_with fail
  refine (Len_any _ p bs _ (HL.out.fr (by repeat (first | (with_reducible exact Fr.refl _) | ((with_reducible refine Fr.set ?_ ?_ _); focus (simp; done)) | (with_reducible refine Fr.alloc ?_ _) | (with_reducible refine Fr.drew ?_) | (with_reducible refine Fr.step ?_ (by assumption)))))).mono ?_
  rintro e w1 ⟨rfl, rfl⟩
  rw [Hbm.out]
  go_wp2_with fail
  refine (Front_ptr _ p bs _ (HL.out.fr (by repeat (first | (with_reducible exact Fr.refl _) | ((with_reducible refine Fr.set ?_ ?_ _); focus (simp; done)) | (with_reducible refine Fr.alloc ?_ _) | (with_reducible refine Fr.drew ?_) | (with_reducible refine Fr.step ?_ (by assumption))))) h0).mono ?_
  rintro e w1 ⟨rfl, rfl⟩
  rw [hb0]
  go_wp2_with fail
  refine (Len_any _ p bs _ (HL.out.fr (by repeat (first | (with_reducible exact Fr.refl _) | ((with_reducible refine Fr.set ?_ ?_ _); focus (simp; done)) | (with_reducible refine Fr.alloc ?_ _) | (with_reducible refine Fr.drew ?_) | (with_reducible refine Fr.step ?_ (by assumption)))))).mono ?_
  rintro e w1 ⟨rfl, rfl⟩
  rw [Hbm.out]
  go_wp2_with fail
  refine (HFl.out _).mono ?_
  rintro e w1 ⟨rfl, rfl⟩
  go_wp2_with fail
  refine (newError_any naE naE _).mono ?_
  rintro e w2 ⟨rfl, hf2⟩
  have hlt2 := hf2.size
  simp at hlt2
  have hfw2 : Fr w w2 := (by repeat (first | (with_reducible exact Fr.refl _) | ((with_reducible refine Fr.set ?_ ?_ _); focus (simp; done)) | (with_reducible refine Fr.alloc ?_ _) | (with_reducible refine Fr.drew ?_) | (with_reducible refine Fr.step ?_ (by assumption))))
  have hT : w2.heap[w.heap.size + 1]? = some (.cells #[.string mt, .float .f64 (fw (g 0)), .string mt, .slice none 0 0, .slice none 0 0, .bool false, .string mt, .int .u8 1, .pointer none, .pointer none] 58 (0, 0)) := (hf2.block _ (by simp)).trans (by have := heap_alloc_new (w.alloc (.cells #[.string ⟨#[]⟩, .float .f64 0, .string ⟨#[]⟩, .slice none 0 0, .slice none 0 0, .bool false, .string ⟨#[]⟩, .int .u8 0, .pointer none, .pointer none] 58)) (.cells #[.string mt, .float .f64 (fw (g 0)), .string mt, .slice none 0 0, .slice none 0 0, .bool false, .string mt, .int .u8 1, .pointer none, .pointer none] 58); simpa using this)
  have hZ : w2.heap[w.heap.size]? = some (.cells #[.string ⟨#[]⟩, .float .f64 0, .string ⟨#[]⟩, .slice none 0 0, .slice none 0 0, .bool false, .string ⟨#[]⟩, .int .u8 0, .pointer none, .pointer none] 58 (0, 0)) := (hf2.block _ (by simp; omega)).trans ((((Fr.refl _).alloc _).block _ (by simp)).trans (heap_alloc_new w _))
  clear hf2 c3
  · have hpi : ((c : Int) % 2 != 0) = true := by simp; omega
    have hpj : (c : Int) % 2 = 1 := by omega
    unfold fa
    go_wp2_with fail
    refine (Back_any _ p bs _ (HL.out.fr (by repeat (first | (with_reducible exact Fr.refl _) | ((with_reducible refine Fr.set ?_ ?_ _); focus (simp; done)) | (with_reducible refine Fr.alloc ?_ _) | (with_reducible refine Fr.drew ?_) | (with_reducible refine Fr.step ?_ (by assumption))))) h0).mono ?_
    rintro e w3 ⟨rfl, rfl⟩
    have hbl : bs[bs.length - 1] = bs[c]'(by rw [Hbm.out]; omega) := by simp [Hbm.out]
    rw [hbl]
    have hcl : c < bs.length := by rw [Hbm.out]; omega
    have e3 := HE.out w2 hfw2 c hcl
    have hbc := (HL.out.hb _ (List.getElem_mem hcl)).2
    have hbc2 : bs[c] < w2.heap.size := by omega
    have hbc3 : ¬ bs[c] = w2.heap.size := by omega
    go_wp2_with fail
    refine (Front_ptr _ p bs _ (HL.out.fr (by repeat (first | (with_reducible exact Fr.refl _) | ((with_reducible refine Fr.set ?_ ?_ _); focus (simp; done)) | (with_reducible refine Fr.alloc ?_ _) | (with_reducible refine Fr.drew ?_) | (with_reducible refine Fr.step ?_ (by assumption))))) h0).mono ?_
    rintro e w3 ⟨rfl, rfl⟩
    go_wp2
    go_loopw [10, 11] (fun v i wr => ∃ q : Nat, q ≤ h ∧ i = .int .i64 q ∧ v = ptrAt bs (2 * q) ∧ pick g (h - q) q = pick g h 0 ∧ wr.heap[w2.heap.size]? = some (.cells #[.string mt, .float .f64 (fw (g c)), .string mt, .slice none 0 0, .slice none 0 0, .bool false, .string mt, .int .u8 1, .pointer none, .pointer none] 58 (0, 0)) ∧ Fr w2 wr) (fun _ i _ => h - (intOf i).toNat)
    case atStart => exact ⟨0, Nat.zero_le _, rfl, by simpa using hb0.symm, rfl, heap_alloc_new w2 _, (Fr.refl w2).alloc _⟩
    case round =>
      obtain ⟨q, hq, rfl, rfl, hpk, hR, hf⟩ := hrel
      have hRlt : w2.heap.size < wr.heap.size := (Array.getElem?_eq_some_iff.1 hR).1
      have hw2r := hf.size
      by_cases hqh : q < h
      · have h20 : 2 * q < bs.length := by rw [Hbm.out]; have := Hh.out; omega
        have h21 : 2 * q + 1 < bs.length := by rw [Hbm.out]; have := Hh.out; omega
        have h22 : 2 * q + 2 < bs.length := by rw [Hbm.out]; have := Hh.out; omega
        have hp0 : ptrAt bs (2 * q) = .pointer (some ⟨bs[2 * q], 0, none⟩) := by unfold ptrAt; rw [List.getElem?_eq_getElem h20]
        have hp1 : ptrAt bs (2 * q + 1) = .pointer (some ⟨bs[2 * q + 1], 0, none⟩) := by unfold ptrAt; rw [List.getElem?_eq_getElem h21]
        have hp2 : ptrAt bs (2 * q + 1 + 1) = .pointer (some ⟨bs[2 * q + 2], 0, none⟩) := by unfold ptrAt; rw [List.getElem?_eq_getElem (show 2 * q + 1 + 1 < bs.length from h22)]
        have hq32 : (q : Int) + 1 ≤ 32 := by have := Hh.out; omega
        have hb1 := (HL.out.hb _ (List.getElem_mem h21)).2
        have hb2 := (HL.out.hb _ (List.getElem_mem h22)).2
        have hk0 := Hkey.out 0 (.inl rfl)
        have hkq := Hkey.out (2 * q + 1) (.inr ⟨by omega, by rw [← Hm.out]; have := Hh.out; omega⟩)
        have HtR := Lib.hid (Ht.out.fr (hfw2.step hf))
        have HdR := Lib.hid (Hd.out.fr (hfw2.step hf))
        have e1 := HE.out wr (hfw2.step hf) (2 * q + 1) h21
        obtain ⟨cT, zT⟩ := obj_rules ((hf.block _ (by omega)).trans hT)
        obtain ⟨k, hk⟩ : ∃ k, h - q = k + 1 := ⟨h - q - 1, by omega⟩
        rw [hk] at hpk
        simp only [pick] at hpk
        rw [hp0]
        go_wp2_with fail
        refine (Next_any _ p (2 * q) bs _ (HL.out.fr (hfw2.step (hf.step (by repeat (first | (with_reducible exact Fr.refl _) | ((with_reducible refine Fr.set ?_ ?_ _); focus (simp; done)) | (with_reducible refine Fr.alloc ?_ _) | (with_reducible refine Fr.drew ?_) | (with_reducible refine Fr.step ?_ (by assumption))))))) h20).mono ?_
        rintro e w6 ⟨rfl, rfl⟩
        rw [hp1]
        by_cases hkey : g (2 * q + 1) = g 0
        · have hmatch : swVal g a.length = some (g (2 * q + 2)) := by unfold swVal; rw [show (a.length - 1) / 2 = h by rw [← Hm.out]; have := Hh.out; omega, ← hpk, if_pos hkey]
          have hbe : ((numT (g 0)).toList == (numT (g (2 * q + 1))).toList) = true := by rw [num_eq]; simp [hkey]
          clear hpk hk hkey
          go_wp2_with fail
          refine wp_region_any (by kernel_rfl) ?_
          change wpAny _ _ _ _ _ _ _ (World.drew _)
          refine wpAny_take (i := 2) (v := .pointer (some ⟨bs[2 * q + 1], 0, none⟩)) rfl (by kernel_rfl) (by kernel_rfl) (by kernel_rfl) (fun _ _ _ h => h) (Or.inl ⟨by rfl, fun W => by first | (go_simp; done) | (go_simp; decide)⟩) ?_
          refine wpAny_take (i := 3) (v := .pointer (some ⟨bs[2 * q + 1], 0, none⟩)) rfl (by kernel_rfl) (by kernel_rfl) (by kernel_rfl) (fun _ _ _ h => h) (Or.inl ⟨by rfl, fun W => by first | (go_simp; done) | (go_simp; decide)⟩) ?_
          refine wpAny_take (i := 4) (v := .pointer (some ⟨bs[2 * q + 1], 3, none⟩)) rfl (by kernel_rfl) (by kernel_rfl) (by kernel_rfl) (fun _ _ _ h => h) (Or.inl ⟨by rfl, fun W => by first | (go_simp; done) | (go_simp; decide)⟩) ?_
          refine wpAny_ready (rs := [0, 5]) (by kernel_rfl) (by simp) ?_
          refine AllReady.cons rfl (fun K hK => ?_) (AllReady.cons rfl (fun K hK => ?_) AllReady.nil)
          · go_simp; refine hK _ _ ?_; clear hK K
            refine wpAny_ready (rs := [1, 5]) (by kernel_rfl) (by simp) ?_
            refine AllReady.cons rfl (fun K hK => ?_) (AllReady.cons rfl (fun K hK => ?_) AllReady.nil)
            · go_simp
              go_wp2_with (go_at_call 39; refine (HV.out (g 0) _ hk0 (HtR.out.fr (by repeat (first | (with_reducible exact Fr.refl _) | ((with_reducible refine Fr.set ?_ ?_ _); focus (simp; done)) | (with_reducible refine Fr.alloc ?_ _) | (with_reducible refine Fr.drew ?_) | (with_reducible refine Fr.step ?_ (by assumption))))) (HdR.out.fr (by repeat (first | (with_reducible exact Fr.refl _) | ((with_reducible refine Fr.set ?_ ?_ _); focus (simp; done)) | (with_reducible refine Fr.alloc ?_ _) | (with_reducible refine Fr.drew ?_) | (with_reducible refine Fr.step ?_ (by assumption)))))).mono ?_; rintro e w4 ⟨rfl, hf4⟩)
              obtain ⟨hc4, hz4⟩ := hf4.cells
              have hs4 := hf4.size
              (try simp at hc4); (try simp at hs4)
              have hb4 : bs[2 * q + 1] < wr.heap.size := by omega
              refine wpAny_ready (rs := [5]) (by kernel_rfl) (by simp) ?_; refine AllReady.cons rfl (fun K hK => ?_) AllReady.nil; go_simp; refine hK _ _ ?_; clear hK K
              refine wpAny_take (i := 6) (v := .agg #[.string mt, .float .f64 (fw (g (2 * q + 1))), .string mt, .slice none 0 0, .slice none 0 0, .bool false, .string mt, .int .u8 1, .pointer none, .pointer none]) rfl (by kernel_rfl) (by kernel_rfl) (by kernel_rfl) (fun _ _ _ h => h) (Or.inl ⟨by rfl, fun W => by first | (go_simp; done) | (go_simp; decide)⟩) ?_
              refine wpAny_ready (rs := [7]) (by kernel_rfl) (by simp) ?_; refine AllReady.cons rfl (fun K hK => ?_) AllReady.nil; go_simp
              go_wp2_with (go_at_call 39; refine (HV.out (g (2 * q + 1)) _ hkq (HtR.out.fr (by repeat (first | (with_reducible exact Fr.refl _) | ((with_reducible refine Fr.set ?_ ?_ _); focus (simp; done)) | (with_reducible refine Fr.alloc ?_ _) | (with_reducible refine Fr.drew ?_) | (with_reducible refine Fr.step ?_ (by assumption))))) (HdR.out.fr (by repeat (first | (with_reducible exact Fr.refl _) | ((with_reducible refine Fr.set ?_ ?_ _); focus (simp; done)) | (with_reducible refine Fr.alloc ?_ _) | (with_reducible refine Fr.drew ?_) | (with_reducible refine Fr.step ?_ (by assumption)))))).mono ?_; rintro e w5 ⟨rfl, hf5⟩)
              have hfr5 : Fr wr w5 := (by repeat (first | (with_reducible exact Fr.refl _) | ((with_reducible refine Fr.set ?_ ?_ _); focus (simp; done)) | (with_reducible refine Fr.alloc ?_ _) | (with_reducible refine Fr.drew ?_) | (with_reducible refine Fr.step ?_ (by assumption))))
              clear hf5
              refine wpAny_ready (rs := [8]) (by kernel_rfl) (by simp) ?_; refine AllReady.cons rfl (fun K hK => ?_) AllReady.nil; go_simp; refine hK _ _ ?_; clear hK K
              refine wpAny_done (by kernel_rfl) ?_ _
              go_wp2_with fail
              refine (Next_any _ p (2 * q + 1) bs _ (HL.out.fr (hfw2.step (hf.step (by repeat (first | (with_reducible exact Fr.refl _) | ((with_reducible refine Fr.set ?_ ?_ _); focus (simp; done)) | (with_reducible refine Fr.alloc ?_ _) | (with_reducible refine Fr.drew ?_) | (with_reducible refine Fr.step ?_ (by assumption))))))) h21).mono ?_
              rintro e w6 ⟨rfl, rfl⟩
              rw [hp2]
              have hf6 : Fr wr w5 := hfr5
              obtain ⟨cR, zR⟩ := obj_rules ((hf6.block _ hRlt).trans hR)
              obtain ⟨cZ, zZ⟩ := obj_rules ((hf6.block _ (by omega)).trans ((hf.block _ (by omega)).trans hZ))
              have e2 := HE.out w5 (hfw2.step (hf.step hf6)) (2 * q + 2) h22
              have hneR : ¬ w2.heap.size = w.heap.size := by omega
              have hneR2 : ¬ w.heap.size = w2.heap.size := by omega
              have hsz5 := hf6.size
              have HM := Lib.hid hmatch
              clear hbe hmatch
              go_wp2
              refine bodyPost_ret (v := .agg #[.string mt, .float .f64 (fw (g (2 * q + 2))), .string mt, .slice none 0 0, .slice none 0 0, .bool false, .string mt, .int .u8 1, .pointer none, .pointer none]) (by simp [results, Tryz.results22, go_sem, mt, *]) rfl ⟨?_, ?_⟩
              · rw [HM.out]; rfl
              · have : Fr w w5 := hfw2.step (hf.step hf6)
                repeat (first | (with_reducible exact this) | ((with_reducible refine Fr.set ?_ ?_ _); focus (simp; done)) | ((with_reducible refine Fr.set ?_ ?_ _); focus (simp; omega)) | (with_reducible refine Fr.drew ?_))
            · go_simp; refine hK _ _ ?_; clear hK K
              refine wpAny_take (i := 6) (v := .agg #[.string mt, .float .f64 (fw (g (2 * q + 1))), .string mt, .slice none 0 0, .slice none 0 0, .bool false, .string mt, .int .u8 1, .pointer none, .pointer none]) rfl (by kernel_rfl) (by kernel_rfl) (by kernel_rfl) (fun _ _ _ h => h) (Or.inl ⟨by rfl, fun W => by first | (go_simp; done) | (go_simp; decide)⟩) ?_
              refine wpAny_ready (rs := [1]) (by kernel_rfl) (by simp) ?_; refine AllReady.cons rfl (fun K hK => ?_) AllReady.nil; go_simp
              go_wp2_with (go_at_call 39; refine (HV.out (g 0) _ hk0 (HtR.out.fr (by repeat (first | (with_reducible exact Fr.refl _) | ((with_reducible refine Fr.set ?_ ?_ _); focus (simp; done)) | (with_reducible refine Fr.alloc ?_ _) | (with_reducible refine Fr.drew ?_) | (with_reducible refine Fr.step ?_ (by assumption))))) (HdR.out.fr (by repeat (first | (with_reducible exact Fr.refl _) | ((with_reducible refine Fr.set ?_ ?_ _); focus (simp; done)) | (with_reducible refine Fr.alloc ?_ _) | (with_reducible refine Fr.drew ?_) | (with_reducible refine Fr.step ?_ (by assumption)))))).mono ?_; rintro e w4 ⟨rfl, hf4⟩)
              obtain ⟨hc4, hz4⟩ := hf4.cells
              have hs4 := hf4.size
              (try simp at hc4); (try simp at hs4)
              have hb4 : bs[2 * q + 1] < wr.heap.size := by omega
              refine wpAny_ready (rs := [7]) (by kernel_rfl) (by simp) ?_; refine AllReady.cons rfl (fun K hK => ?_) AllReady.nil; go_simp
              go_wp2_with (go_at_call 39; refine (HV.out (g (2 * q + 1)) _ hkq (HtR.out.fr (by repeat (first | (with_reducible exact Fr.refl _) | ((with_reducible refine Fr.set ?_ ?_ _); focus (simp; done)) | (with_reducible refine Fr.alloc ?_ _) | (with_reducible refine Fr.drew ?_) | (with_reducible refine Fr.step ?_ (by assumption))))) (HdR.out.fr (by repeat (first | (with_reducible exact Fr.refl _) | ((with_reducible refine Fr.set ?_ ?_ _); focus (simp; done)) | (with_reducible refine Fr.alloc ?_ _) | (with_reducible refine Fr.drew ?_) | (with_reducible refine Fr.step ?_ (by assumption)))))).mono ?_; rintro e w5 ⟨rfl, hf5⟩)
              have hfr5 : Fr wr w5 := (by repeat (first | (with_reducible exact Fr.refl _) | ((with_reducible refine Fr.set ?_ ?_ _); focus (simp; done)) | (with_reducible refine Fr.alloc ?_ _) | (with_reducible refine Fr.drew ?_) | (with_reducible refine Fr.step ?_ (by assumption))))
              clear hf5
              refine wpAny_ready (rs := [8]) (by kernel_rfl) (by simp) ?_; refine AllReady.cons rfl (fun K hK => ?_) AllReady.nil; go_simp; refine hK _ _ ?_; clear hK K
              refine wpAny_done (by kernel_rfl) ?_ _
              go_wp2_with fail
              refine (Next_any _ p (2 * q + 1) bs _ (HL.out.fr (hfw2.step (hf.step (by repeat (first | (with_reducible exact Fr.refl _) | ((with_reducible refine Fr.set ?_ ?_ _); focus (simp; done)) | (with_reducible refine Fr.alloc ?_ _) | (with_reducible refine Fr.drew ?_) | (with_reducible refine Fr.step ?_ (by assumption))))))) h21).mono ?_
              rintro e w6 ⟨rfl, rfl⟩
              rw [hp2]
              have hf6 : Fr wr w5 := hfr5
              obtain ⟨cR, zR⟩ := obj_rules ((hf6.block _ hRlt).trans hR)
              obtain ⟨cZ, zZ⟩ := obj_rules ((hf6.block _ (by omega)).trans ((hf.block _ (by omega)).trans hZ))
              have e2 := HE.out w5 (hfw2.step (hf.step hf6)) (2 * q + 2) h22
              have hneR : ¬ w2.heap.size = w.heap.size := by omega
              have hneR2 : ¬ w.heap.size = w2.heap.size := by omega
              have hsz5 := hf6.size
              have HM := Lib.hid hmatch
              clear hbe hmatch
              go_wp2
              refine bodyPost_ret (v := .agg #[.string mt, .float .f64 (fw (g (2 * q + 2))), .string mt, .slice none 0 0, .slice none 0 0, .bool false, .string mt, .int .u8 1, .pointer none, .pointer none]) (by simp [results, Tryz.results22, go_sem, mt, *]) rfl ⟨?_, ?_⟩
              · rw [HM.out]; rfl
              · have : Fr w w5 := hfw2.step (hf.step hf6)
                repeat (first | (with_reducible exact this) | ((with_reducible refine Fr.set ?_ ?_ _); focus (simp; done)) | ((with_reducible refine Fr.set ?_ ?_ _); focus (simp; omega)) | (with_reducible refine Fr.drew ?_))
          · go_simp; refine hK _ _ ?_; clear hK K
            refine wpAny_take (i := 6) (v := .agg #[.string mt, .float .f64 (fw (g (2 * q + 1))), .string mt, .slice none 0 0, .slice none 0 0, .bool false, .string mt, .int .u8 1, .pointer none, .pointer none]) rfl (by kernel_rfl) (by kernel_rfl) (by kernel_rfl) (fun _ _ _ h => h) (Or.inl ⟨by rfl, fun W => by first | (go_simp; done) | (go_simp; decide)⟩) ?_
            refine wpAny_ready (rs := [0]) (by kernel_rfl) (by simp) ?_; refine AllReady.cons rfl (fun K hK => ?_) AllReady.nil; go_simp; refine hK _ _ ?_; clear hK K
            refine wpAny_ready (rs := [1]) (by kernel_rfl) (by simp) ?_; refine AllReady.cons rfl (fun K hK => ?_) AllReady.nil; go_simp
            go_wp2_with (go_at_call 39; refine (HV.out (g 0) _ hk0 (HtR.out.fr (by repeat (first | (with_reducible exact Fr.refl _) | ((with_reducible refine Fr.set ?_ ?_ _); focus (simp; done)) | (with_reducible refine Fr.alloc ?_ _) | (with_reducible refine Fr.drew ?_) | (with_reducible refine Fr.step ?_ (by assumption))))) (HdR.out.fr (by repeat (first | (with_reducible exact Fr.refl _) | ((with_reducible refine Fr.set ?_ ?_ _); focus (simp; done)) | (with_reducible refine Fr.alloc ?_ _) | (with_reducible refine Fr.drew ?_) | (with_reducible refine Fr.step ?_ (by assumption)))))).mono ?_; rintro e w4 ⟨rfl, hf4⟩)
            obtain ⟨hc4, hz4⟩ := hf4.cells
            have hs4 := hf4.size
            (try simp at hc4); (try simp at hs4)
            have hb4 : bs[2 * q + 1] < wr.heap.size := by omega
            refine wpAny_ready (rs := [7]) (by kernel_rfl) (by simp) ?_; refine AllReady.cons rfl (fun K hK => ?_) AllReady.nil; go_simp
            go_wp2_with (go_at_call 39; refine (HV.out (g (2 * q + 1)) _ hkq (HtR.out.fr (by repeat (first | (with_reducible exact Fr.refl _) | ((with_reducible refine Fr.set ?_ ?_ _); focus (simp; done)) | (with_reducible refine Fr.alloc ?_ _) | (with_reducible refine Fr.drew ?_) | (with_reducible refine Fr.step ?_ (by assumption))))) (HdR.out.fr (by repeat (first | (with_reducible exact Fr.refl _) | ((with_reducible refine Fr.set ?_ ?_ _); focus (simp; done)) | (with_reducible refine Fr.alloc ?_ _) | (with_reducible refine Fr.drew ?_) | (with_reducible refine Fr.step ?_ (by assumption)))))).mono ?_; rintro e w5 ⟨rfl, hf5⟩)
            have hfr5 : Fr wr w5 := (by repeat (first | (with_reducible exact Fr.refl _) | ((with_reducible refine Fr.set ?_ ?_ _); focus (simp; done)) | (with_reducible refine Fr.alloc ?_ _) | (with_reducible refine Fr.drew ?_) | (with_reducible refine Fr.step ?_ (by assumption))))
            clear hf5
            refine wpAny_ready (rs := [8]) (by kernel_rfl) (by simp) ?_; refine AllReady.cons rfl (fun K hK => ?_) AllReady.nil; go_simp; refine hK _ _ ?_; clear hK K
            refine wpAny_done (by kernel_rfl) ?_ _
            go_wp2_with fail
            refine (Next_any _ p (2 * q + 1) bs _ (HL.out.fr (hfw2.step (hf.step (by repeat (first | (with_reducible exact Fr.refl _) | ((with_reducible refine Fr.set ?_ ?_ _); focus (simp; done)) | (with_reducible refine Fr.alloc ?_ _) | (with_reducible refine Fr.drew ?_) | (with_reducible refine Fr.step ?_ (by assumption))))))) h21).mono ?_
            rintro e w6 ⟨rfl, rfl⟩
            rw [hp2]
            have hf6 : Fr wr w5 := hfr5
            obtain ⟨cR, zR⟩ := obj_rules ((hf6.block _ hRlt).trans hR)
            obtain ⟨cZ, zZ⟩ := obj_rules ((hf6.block _ (by omega)).trans ((hf.block _ (by omega)).trans hZ))
            have e2 := HE.out w5 (hfw2.step (hf.step hf6)) (2 * q + 2) h22
            have hneR : ¬ w2.heap.size = w.heap.size := by omega
            have hneR2 : ¬ w.heap.size = w2.heap.size := by omega
            have hsz5 := hf6.size
            have HM := Lib.hid hmatch
            clear hbe hmatch
            go_wp2
            refine bodyPost_ret (v := .agg #[.string mt, .float .f64 (fw (g (2 * q + 2))), .string mt, .slice none 0 0, .slice none 0 0, .bool false, .string mt, .int .u8 1, .pointer none, .pointer none]) (by simp [results, Tryz.results22, go_sem, mt, *]) rfl ⟨?_, ?_⟩
            · rw [HM.out]; rfl
            · have : Fr w w5 := hfw2.step (hf.step hf6)
              repeat (first | (with_reducible exact this) | ((with_reducible refine Fr.set ?_ ?_ _); focus (simp; done)) | ((with_reducible refine Fr.set ?_ ?_ _); focus (simp; omega)) | (with_reducible refine Fr.drew ?_))
        · have hnext : pick g (h - (q + 1)) (q + 1) = pick g h 0 := by rw [if_neg hkey] at hpk; rw [show h - (q + 1) = k by omega]; exact hpk
          have hbe : ((numT (g 0)).toList == (numT (g (2 * q + 1))).toList) = false := by rw [num_eq]; simp; exact fun hh => hkey hh.symm
          clear hpk hk hkey
          go_wp2_with fail
          refine wp_region_any (by kernel_rfl) ?_
          change wpAny _ _ _ _ _ _ _ (World.drew _)
          refine wpAny_take (i := 2) (v := .pointer (some ⟨bs[2 * q + 1], 0, none⟩)) rfl (by kernel_rfl) (by kernel_rfl) (by kernel_rfl) (fun _ _ _ h => h) (Or.inl ⟨by rfl, fun W => by first | (go_simp; done) | (go_simp; decide)⟩) ?_
          refine wpAny_take (i := 3) (v := .pointer (some ⟨bs[2 * q + 1], 0, none⟩)) rfl (by kernel_rfl) (by kernel_rfl) (by kernel_rfl) (fun _ _ _ h => h) (Or.inl ⟨by rfl, fun W => by first | (go_simp; done) | (go_simp; decide)⟩) ?_
          refine wpAny_take (i := 4) (v := .pointer (some ⟨bs[2 * q + 1], 3, none⟩)) rfl (by kernel_rfl) (by kernel_rfl) (by kernel_rfl) (fun _ _ _ h => h) (Or.inl ⟨by rfl, fun W => by first | (go_simp; done) | (go_simp; decide)⟩) ?_
          refine wpAny_ready (rs := [0, 5]) (by kernel_rfl) (by simp) ?_
          refine AllReady.cons rfl (fun K hK => ?_) (AllReady.cons rfl (fun K hK => ?_) AllReady.nil)
          · go_simp; refine hK _ _ ?_; clear hK K
            refine wpAny_ready (rs := [1, 5]) (by kernel_rfl) (by simp) ?_
            refine AllReady.cons rfl (fun K hK => ?_) (AllReady.cons rfl (fun K hK => ?_) AllReady.nil)
            · go_simp
              go_wp2_with (go_at_call 39; refine (HV.out (g 0) _ hk0 (HtR.out.fr (by repeat (first | (with_reducible exact Fr.refl _) | ((with_reducible refine Fr.set ?_ ?_ _); focus (simp; done)) | (with_reducible refine Fr.alloc ?_ _) | (with_reducible refine Fr.drew ?_) | (with_reducible refine Fr.step ?_ (by assumption))))) (HdR.out.fr (by repeat (first | (with_reducible exact Fr.refl _) | ((with_reducible refine Fr.set ?_ ?_ _); focus (simp; done)) | (with_reducible refine Fr.alloc ?_ _) | (with_reducible refine Fr.drew ?_) | (with_reducible refine Fr.step ?_ (by assumption)))))).mono ?_; rintro e w4 ⟨rfl, hf4⟩)
              obtain ⟨hc4, hz4⟩ := hf4.cells
              have hs4 := hf4.size
              (try simp at hc4); (try simp at hs4)
              have hb4 : bs[2 * q + 1] < wr.heap.size := by omega
              refine wpAny_ready (rs := [5]) (by kernel_rfl) (by simp) ?_; refine AllReady.cons rfl (fun K hK => ?_) AllReady.nil; go_simp; refine hK _ _ ?_; clear hK K
              refine wpAny_take (i := 6) (v := .agg #[.string mt, .float .f64 (fw (g (2 * q + 1))), .string mt, .slice none 0 0, .slice none 0 0, .bool false, .string mt, .int .u8 1, .pointer none, .pointer none]) rfl (by kernel_rfl) (by kernel_rfl) (by kernel_rfl) (fun _ _ _ h => h) (Or.inl ⟨by rfl, fun W => by first | (go_simp; done) | (go_simp; decide)⟩) ?_
              refine wpAny_ready (rs := [7]) (by kernel_rfl) (by simp) ?_; refine AllReady.cons rfl (fun K hK => ?_) AllReady.nil; go_simp
              go_wp2_with (go_at_call 39; refine (HV.out (g (2 * q + 1)) _ hkq (HtR.out.fr (by repeat (first | (with_reducible exact Fr.refl _) | ((with_reducible refine Fr.set ?_ ?_ _); focus (simp; done)) | (with_reducible refine Fr.alloc ?_ _) | (with_reducible refine Fr.drew ?_) | (with_reducible refine Fr.step ?_ (by assumption))))) (HdR.out.fr (by repeat (first | (with_reducible exact Fr.refl _) | ((with_reducible refine Fr.set ?_ ?_ _); focus (simp; done)) | (with_reducible refine Fr.alloc ?_ _) | (with_reducible refine Fr.drew ?_) | (with_reducible refine Fr.step ?_ (by assumption)))))).mono ?_; rintro e w5 ⟨rfl, hf5⟩)
              have hfr5 : Fr wr w5 := (by repeat (first | (with_reducible exact Fr.refl _) | ((with_reducible refine Fr.set ?_ ?_ _); focus (simp; done)) | (with_reducible refine Fr.alloc ?_ _) | (with_reducible refine Fr.drew ?_) | (with_reducible refine Fr.step ?_ (by assumption))))
              clear hf5
              refine wpAny_ready (rs := [8]) (by kernel_rfl) (by simp) ?_; refine AllReady.cons rfl (fun K hK => ?_) AllReady.nil; go_simp; refine hK _ _ ?_; clear hK K
              refine wpAny_done (by kernel_rfl) ?_ _
              go_wp2_with fail
              refine (Next_any _ p (2 * q + 1) bs _ (HL.out.fr (hfw2.step (hf.step (by repeat (first | (with_reducible exact Fr.refl _) | ((with_reducible refine Fr.set ?_ ?_ _); focus (simp; done)) | (with_reducible refine Fr.alloc ?_ _) | (with_reducible refine Fr.drew ?_) | (with_reducible refine Fr.step ?_ (by assumption))))))) h21).mono ?_
              rintro e w6 ⟨rfl, rfl⟩
              go_wp2
              go_roundw
              case rel => exact ⟨q + 1, by omega, by simp, by rw [show 2 * (q + 1) = 2 * q + 1 + 1 by omega, hp2], hnext, (hfr5.block _ hRlt).trans hR, hf.step hfr5⟩
              case measure => simp [intOf]; omega
            · go_simp; refine hK _ _ ?_; clear hK K
              refine wpAny_take (i := 6) (v := .agg #[.string mt, .float .f64 (fw (g (2 * q + 1))), .string mt, .slice none 0 0, .slice none 0 0, .bool false, .string mt, .int .u8 1, .pointer none, .pointer none]) rfl (by kernel_rfl) (by kernel_rfl) (by kernel_rfl) (fun _ _ _ h => h) (Or.inl ⟨by rfl, fun W => by first | (go_simp; done) | (go_simp; decide)⟩) ?_
              refine wpAny_ready (rs := [1]) (by kernel_rfl) (by simp) ?_; refine AllReady.cons rfl (fun K hK => ?_) AllReady.nil; go_simp
              go_wp2_with (go_at_call 39; refine (HV.out (g 0) _ hk0 (HtR.out.fr (by repeat (first | (with_reducible exact Fr.refl _) | ((with_reducible refine Fr.set ?_ ?_ _); focus (simp; done)) | (with_reducible refine Fr.alloc ?_ _) | (with_reducible refine Fr.drew ?_) | (with_reducible refine Fr.step ?_ (by assumption))))) (HdR.out.fr (by repeat (first | (with_reducible exact Fr.refl _) | ((with_reducible refine Fr.set ?_ ?_ _); focus (simp; done)) | (with_reducible refine Fr.alloc ?_ _) | (with_reducible refine Fr.drew ?_) | (with_reducible refine Fr.step ?_ (by assumption)))))).mono ?_; rintro e w4 ⟨rfl, hf4⟩)
              obtain ⟨hc4, hz4⟩ := hf4.cells
              have hs4 := hf4.size
              (try simp at hc4); (try simp at hs4)
              have hb4 : bs[2 * q + 1] < wr.heap.size := by omega
              refine wpAny_ready (rs := [7]) (by kernel_rfl) (by simp) ?_; refine AllReady.cons rfl (fun K hK => ?_) AllReady.nil; go_simp
              go_wp2_with (go_at_call 39; refine (HV.out (g (2 * q + 1)) _ hkq (HtR.out.fr (by repeat (first | (with_reducible exact Fr.refl _) | ((with_reducible refine Fr.set ?_ ?_ _); focus (simp; done)) | (with_reducible refine Fr.alloc ?_ _) | (with_reducible refine Fr.drew ?_) | (with_reducible refine Fr.step ?_ (by assumption))))) (HdR.out.fr (by repeat (first | (with_reducible exact Fr.refl _) | ((with_reducible refine Fr.set ?_ ?_ _); focus (simp; done)) | (with_reducible refine Fr.alloc ?_ _) | (with_reducible refine Fr.drew ?_) | (with_reducible refine Fr.step ?_ (by assumption)))))).mono ?_; rintro e w5 ⟨rfl, hf5⟩)
              have hfr5 : Fr wr w5 := (by repeat (first | (with_reducible exact Fr.refl _) | ((with_reducible refine Fr.set ?_ ?_ _); focus (simp; done)) | (with_reducible refine Fr.alloc ?_ _) | (with_reducible refine Fr.drew ?_) | (with_reducible refine Fr.step ?_ (by assumption))))
              clear hf5
              refine wpAny_ready (rs := [8]) (by kernel_rfl) (by simp) ?_; refine AllReady.cons rfl (fun K hK => ?_) AllReady.nil; go_simp; refine hK _ _ ?_; clear hK K
              refine wpAny_done (by kernel_rfl) ?_ _
              go_wp2_with fail
              refine (Next_any _ p (2 * q + 1) bs _ (HL.out.fr (hfw2.step (hf.step (by repeat (first | (with_reducible exact Fr.refl _) | ((with_reducible refine Fr.set ?_ ?_ _); focus (simp; done)) | (with_reducible refine Fr.alloc ?_ _) | (with_reducible refine Fr.drew ?_) | (with_reducible refine Fr.step ?_ (by assumption))))))) h21).mono ?_
              rintro e w6 ⟨rfl, rfl⟩
              go_wp2
              go_roundw
              case rel => exact ⟨q + 1, by omega, by simp, by rw [show 2 * (q + 1) = 2 * q + 1 + 1 by omega, hp2], hnext, (hfr5.block _ hRlt).trans hR, hf.step hfr5⟩
              case measure => simp [intOf]; omega
          · go_simp; refine hK _ _ ?_; clear hK K
            refine wpAny_take (i := 6) (v := .agg #[.string mt, .float .f64 (fw (g (2 * q + 1))), .string mt, .slice none 0 0, .slice none 0 0, .bool false, .string mt, .int .u8 1, .pointer none, .pointer none]) rfl (by kernel_rfl) (by kernel_rfl) (by kernel_rfl) (fun _ _ _ h => h) (Or.inl ⟨by rfl, fun W => by first | (go_simp; done) | (go_simp; decide)⟩) ?_
            refine wpAny_ready (rs := [0]) (by kernel_rfl) (by simp) ?_; refine AllReady.cons rfl (fun K hK => ?_) AllReady.nil; go_simp; refine hK _ _ ?_; clear hK K
            refine wpAny_ready (rs := [1]) (by kernel_rfl) (by simp) ?_; refine AllReady.cons rfl (fun K hK => ?_) AllReady.nil; go_simp
            go_wp2_with (go_at_call 39; refine (HV.out (g 0) _ hk0 (HtR.out.fr (by repeat (first | (with_reducible exact Fr.refl _) | ((with_reducible refine Fr.set ?_ ?_ _); focus (simp; done)) | (with_reducible refine Fr.alloc ?_ _) | (with_reducible refine Fr.drew ?_) | (with_reducible refine Fr.step ?_ (by assumption))))) (HdR.out.fr (by repeat (first | (with_reducible exact Fr.refl _) | ((with_reducible refine Fr.set ?_ ?_ _); focus (simp; done)) | (with_reducible refine Fr.alloc ?_ _) | (with_reducible refine Fr.drew ?_) | (with_reducible refine Fr.step ?_ (by assumption)))))).mono ?_; rintro e w4 ⟨rfl, hf4⟩)
            obtain ⟨hc4, hz4⟩ := hf4.cells
            have hs4 := hf4.size
            (try simp at hc4); (try simp at hs4)
            have hb4 : bs[2 * q + 1] < wr.heap.size := by omega
            refine wpAny_ready (rs := [7]) (by kernel_rfl) (by simp) ?_; refine AllReady.cons rfl (fun K hK => ?_) AllReady.nil; go_simp
            go_wp2_with (go_at_call 39; refine (HV.out (g (2 * q + 1)) _ hkq (HtR.out.fr (by repeat (first | (with_reducible exact Fr.refl _) | ((with_reducible refine Fr.set ?_ ?_ _); focus (simp; done)) | (with_reducible refine Fr.alloc ?_ _) | (with_reducible refine Fr.drew ?_) | (with_reducible refine Fr.step ?_ (by assumption))))) (HdR.out.fr (by repeat (first | (with_reducible exact Fr.refl _) | ((with_reducible refine Fr.set ?_ ?_ _); focus (simp; done)) | (with_reducible refine Fr.alloc ?_ _) | (with_reducible refine Fr.drew ?_) | (with_reducible refine Fr.step ?_ (by assumption)))))).mono ?_; rintro e w5 ⟨rfl, hf5⟩)
            have hfr5 : Fr wr w5 := (by repeat (first | (with_reducible exact Fr.refl _) | ((with_reducible refine Fr.set ?_ ?_ _); focus (simp; done)) | (with_reducible refine Fr.alloc ?_ _) | (with_reducible refine Fr.drew ?_) | (with_reducible refine Fr.step ?_ (by assumption))))
            clear hf5
            refine wpAny_ready (rs := [8]) (by kernel_rfl) (by simp) ?_; refine AllReady.cons rfl (fun K hK => ?_) AllReady.nil; go_simp; refine hK _ _ ?_; clear hK K
            refine wpAny_done (by kernel_rfl) ?_ _
            go_wp2_with fail
            refine (Next_any _ p (2 * q + 1) bs _ (HL.out.fr (hfw2.step (hf.step (by repeat (first | (with_reducible exact Fr.refl _) | ((with_reducible refine Fr.set ?_ ?_ _); focus (simp; done)) | (with_reducible refine Fr.alloc ?_ _) | (with_reducible refine Fr.drew ?_) | (with_reducible refine Fr.step ?_ (by assumption))))))) h21).mono ?_
            rintro e w6 ⟨rfl, rfl⟩
            go_wp2
            go_roundw
            case rel => exact ⟨q + 1, by omega, by simp, by rw [show 2 * (q + 1) = 2 * q + 1 + 1 by omega, hp2], hnext, (hfr5.block _ hRlt).trans hR, hf.step hfr5⟩
            case measure => simp [intOf]; omega
      · have hqe := Lib.hid (show q = h by omega)
        have hqi : ¬ (q : Int) < (h : Int) := by omega
        have hend : swVal g a.length = some (g c) := by
          rw [hqe.out, Nat.sub_self] at hpk
          unfold swVal
          rw [show (a.length - 1) / 2 = h by rw [← Hm.out]; have := Hh.out; omega, ← hpk]
          simp only [pick]
          rw [← Hm.out]; simp; omega
        have Hend := Lib.hid hend
        clear hend hqh hpk
        obtain ⟨cR, zR⟩ := obj_rules hR
        obtain ⟨cZ, zZ⟩ := obj_rules ((hf.block _ (by omega)).trans hZ)
        have hneR : ¬ w2.heap.size = w.heap.size := by omega
        go_wp2
        refine bodyPost_ret (v := .agg #[.string mt, .float .f64 (fw (g c)), .string mt, .slice none 0 0, .slice none 0 0, .bool false, .string mt, .int .u8 1, .pointer none, .pointer none]) (by simp [results, Tryz.results22, go_sem, mt, *]) rfl ⟨?_, ?_⟩
        · rw [Hend.out]; rfl
        · have : Fr w wr := hfw2.step hf
          repeat (first | (with_reducible exact this) | ((with_reducible refine Fr.set ?_ ?_ _); focus (simp; done)) | ((with_reducible refine Fr.set ?_ ?_ _); focus (simp; omega)) | (with_reducible refine Fr.drew ?_))
end Go.Proofs.YtnpnclhjfemldaaGreatDoor
