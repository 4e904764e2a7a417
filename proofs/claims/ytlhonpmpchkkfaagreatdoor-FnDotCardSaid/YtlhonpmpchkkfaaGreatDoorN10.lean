import Derived.Test.YtlhonpmpchkkfaaGreatDoorN9
set_option linter.unusedSimpArgs false
set_option linter.unusedVariables false
/- A whole number below 2^20 as text, in the format %g. -/
namespace Go.Proofs.YtlhonpmpchkkfaaGreatDoor
open Go.RowKit
open Fl
open Go.Lib (dg nDigits FmtInv decDigits)
def DT (w : World) : Prop := Lib.TabIs Tryz.prog w "internal/strconv.uint64pow10" .u64 Lib.pow10Tab
theorem DT.fr {w w' : World} (h : DT w) (hf : Fr w w') : DT w' := by
  unfold DT Lib.TabIs at *
  have hg : Tryz.prog.globalNamed "internal/strconv.uint64pow10" = some 9 := by kernel_rfl
  have hlt : 9 < w.heap.size := by
    have := h
    simp only [World.var?, hg] at this
    rcases Nat.lt_or_ge 9 w.heap.size with h' | h'
    · exact h'
    · simp [Array.getElem?_eq_none h'] at this
  simp only [World.var?, hg, Option.bind_some] at h ⊢
  rw [hf.block _ hlt]; exact h
theorem zeros32 (j : Nat) (h : j < 32) : (#[Value.int .u8 0, Value.int .u8 0, Value.int .u8 0, Value.int .u8 0, Value.int .u8 0, Value.int .u8 0, Value.int .u8 0, Value.int .u8 0, Value.int .u8 0, Value.int .u8 0, Value.int .u8 0, Value.int .u8 0, Value.int .u8 0, Value.int .u8 0, Value.int .u8 0, Value.int .u8 0, Value.int .u8 0, Value.int .u8 0, Value.int .u8 0, Value.int .u8 0, Value.int .u8 0, Value.int .u8 0, Value.int .u8 0, Value.int .u8 0, Value.int .u8 0, Value.int .u8 0, Value.int .u8 0, Value.int .u8 0, Value.int .u8 0, Value.int .u8 0, Value.int .u8 0, Value.int .u8 0] : Array Value)[j]? = some (.int .u8 0) := by
  show (Array.replicate 32 (Value.int .u8 0))[j]? = _
  simp [h]
theorem buf32 (w w2 : World) (t : TypeId) (hf : Fr (w.alloc (.cells #[Value.int .u8 0, Value.int .u8 0, Value.int .u8 0, Value.int .u8 0, Value.int .u8 0, Value.int .u8 0, Value.int .u8 0, Value.int .u8 0, Value.int .u8 0, Value.int .u8 0, Value.int .u8 0, Value.int .u8 0, Value.int .u8 0, Value.int .u8 0, Value.int .u8 0, Value.int .u8 0, Value.int .u8 0, Value.int .u8 0, Value.int .u8 0, Value.int .u8 0, Value.int .u8 0, Value.int .u8 0, Value.int .u8 0, Value.int .u8 0, Value.int .u8 0, Value.int .u8 0, Value.int .u8 0, Value.int .u8 0, Value.int .u8 0, Value.int .u8 0, Value.int .u8 0, Value.int .u8 0] t)).drew w2) : (∃ c0, w2.heap[w.heap.size]? = some (.cells c0 t (0, 0))) ∧ ∀ j, j < 32 → w2.cell? ⟨w.heap.size, j, none⟩ = some (.int .u8 0) ∧ w2.frozen? ⟨w.heap.size, j, none⟩ = false := by
  have hb : w2.heap[w.heap.size]? = some (.cells #[Value.int .u8 0, Value.int .u8 0, Value.int .u8 0, Value.int .u8 0, Value.int .u8 0, Value.int .u8 0, Value.int .u8 0, Value.int .u8 0, Value.int .u8 0, Value.int .u8 0, Value.int .u8 0, Value.int .u8 0, Value.int .u8 0, Value.int .u8 0, Value.int .u8 0, Value.int .u8 0, Value.int .u8 0, Value.int .u8 0, Value.int .u8 0, Value.int .u8 0, Value.int .u8 0, Value.int .u8 0, Value.int .u8 0, Value.int .u8 0, Value.int .u8 0, Value.int .u8 0, Value.int .u8 0, Value.int .u8 0, Value.int .u8 0, Value.int .u8 0, Value.int .u8 0, Value.int .u8 0] t (0, 0)) := (hf.block w.heap.size (by simp)).trans (heap_alloc_new w _)
  refine ⟨⟨_, hb⟩, fun j hj => ⟨(Lib.cell_of_heap hb j).trans (zeros32 j hj), ?_⟩⟩
  simp [World.frozen?, hb]
set_option maxRecDepth 100000 in
set_option maxHeartbeats 4000000 in
theorem ftoa64_core (hLc : LenC) (hNc : NumC) (hFc : FmtC) (B X E M0 M L k D nd Kd : Nat) (neg : Bool) (dst : Value) (w : World)
    (hX : X < 18446744073709551616) (hneg : (X : Int) / 9223372036854775808 = if neg then 1 else 0) (e52 : (X : Int) / 4503599627370496 = (E : Int)) (hE : E < 4096) (eE : bits .and .i64 (E : Int) 2047 = (L : Int) + 1023) (hL : L < 20)
    (eM : bits .and .u64 (X : Int) 4503599627370495 = (M0 : Int)) (hM0 : M0 < 4503599627370496) (hM1 : (M0 + 4503599627370496) * 2048 = M) (hM2 : M < 18446744073709551616)
    (hbl : Lib.bitLen (M0 + 4503599627370496) = 53) (hsf : ∀ w, PT w → Calls Tryz.prog 101 #[.int .u64 M, .int .i64 ((L : Int) - 63)] w fun e w' => e = .returned (.tuple #[.int .u64 D, .int .i64 (-(k : Int))]) ∧ Fr w w')
    (hD1 : 1 ≤ D) (hD2 : D < 18446744073709551616) (hnd : nDigits D = nd) (hnd32 : nd ≤ 32) (hk : k ≤ 100) (hKe : nd = Kd + k) (hK1 : 1 ≤ Kd) (hK6 : Kd ≤ 6) (htr : ∀ z, Trimmed D nd z → z ≤ Kd)
    (ht : PT w) (hd : DT w) (hown : w.ownsRow B 5 1 dst 0 []) (hB : B ≤ w.heap.size) :
    Calls Tryz.prog 72 #[dst, .float .f64 X, .int .u8 103, .int .i64 (-1)] w fun e w' => ∃ v z, Trimmed D nd z ∧
      e = .returned v ∧ w'.ownsRow B 5 1 v ((if neg then 1 else 0) + Kd) (Lib.byteCells (digs (if neg then [45] else []) D nd z ++ List.replicate (Kd - z) 48)) ∧ (∀ w0, w0.heap.size ≤ B → Fr w0 w → Fr w0 w') := by
  have hbr := bits_run X
  have eM2 := u64_lead M0 hM0
  have eM3 : ((M0 + 4503599627370496 : Nat) : Int) * 2048 = (M : Int) := by omega
  have HLen := Lib.hid (fun w => hLc (M0 + 4503599627370496) w (by omega))
  rw [hbl] at HLen
  have hM9 : ((M0 + 4503599627370496 : Nat) : Int) ≠ 0 := by omega
  generalize hMM : M0 + 4503599627370496 = MM at *
  have HSf := Lib.hid hsf; clear hsf
  have Ht := Lib.hid ht; clear ht
  have Hd := Lib.hid hd; clear hd
  have HO := Lib.hid hown; clear hown
  have HN := Lib.hid hNc; clear hNc
  have HF := Lib.hid hFc; clear hFc
  have Htr := Lib.hid htr; clear htr
  have hD10 : D < 10 ^ nd := by rw [← hnd]; exact Lib.lt_pow_nDigits D
  have hnd1 : 1 ≤ nd := by omega
  have hKi : (nd : Int) - k = Kd := by omega
  have hndi : (nd : Int) = Kd + k := by omega
  have Hndi := Lib.hid hndi; clear hndi
  have HKe := Lib.hid hKe; clear hKe
  clear hLc hM1 hMM hbl
  cases neg
  · skip
    simp only [Bool.false_eq_true, if_false] at hneg ⊢
    go_enter Tryz.func72, Tryz.ntmps72
    go_wp2_with fail
    refine wp_region_any (by kernel_rfl) ?_
    change wpAny _ _ _ _ _ _ _ (World.drew _)
    refine wpAny_take (i := 0) (v := .int .u64 X) rfl (by kernel_rfl) (by kernel_rfl) (by kernel_rfl) (fun _ _ _ h => h) (Or.inl ⟨by rfl, fun W => by first | (go_simp; done) | (go_simp; decide)⟩) ?_
    refine wpAny_take (i := 1) (v := .int .i64 52) rfl (by kernel_rfl) (by kernel_rfl) (by kernel_rfl) (fun _ _ _ h => h) (Or.inl ⟨by rfl, fun W => by first | (go_simp; done) | (go_simp; decide)⟩) ?_
    refine wpAny_take (i := 4) (v := .int .i64 11) rfl (by kernel_rfl) (by kernel_rfl) (by kernel_rfl) (fun _ _ _ h => h) (Or.inl ⟨by rfl, fun W => by first | (go_simp; done) | (go_simp; decide)⟩) ?_
    refine wpAny_take (i := 5) (v := .int .i64 2048) rfl (by kernel_rfl) (by kernel_rfl) (by kernel_rfl) (fun _ _ _ h => h) (Or.inl ⟨by rfl, fun W => by first | (go_simp; done) | (go_simp; decide)⟩) ?_
    refine wpAny_take (i := 6) (v := .int .i64 2047) rfl (by kernel_rfl) (by kernel_rfl) (by kernel_rfl) (fun _ _ _ h => h) (Or.inl ⟨by rfl, fun W => by first | (go_simp; done) | (go_simp; decide)⟩) ?_
    refine wpAny_ready (rs := [2]) (by kernel_rfl) (by simp) ?_; refine AllReady.cons rfl (fun K hK => ?_) AllReady.nil; go_simp; refine hK _ _ ?_; clear hK K
    refine wpAny_ready (rs := [3]) (by kernel_rfl) (by simp) ?_; refine AllReady.cons rfl (fun K hK => ?_) AllReady.nil; go_simp; refine hK _ _ ?_; clear hK K
    refine wpAny_ready (rs := [7]) (by kernel_rfl) (by simp) ?_; refine AllReady.cons rfl (fun K hK => ?_) AllReady.nil; go_simp; refine hK _ _ ?_; clear hK K
    refine wpAny_ready (rs := [8]) (by kernel_rfl) (by simp) ?_; refine AllReady.cons rfl (fun K hK => ?_) AllReady.nil; go_simp; refine hK _ _ ?_; clear hK K
    refine wpAny_done (by kernel_rfl) ?_ _
    go_wp2_with fail
    refine (HLen.out _).mono ?_
    rintro e w1 ⟨rfl, rfl⟩
    go_wp2_with fail
    rw [show ((L : Int) + 1023 + -1023 - 11 - 52) = (L : Int) - 63 by omega]
    refine (HSf.out _ (Ht.out.fr (by repeat (first | (with_reducible exact Fr.refl _) | ((with_reducible refine Fr.set ?_ ?_ _); focus (simp; done)) | (with_reducible refine Fr.alloc ?_ _) | (with_reducible refine Fr.drew ?_) | (with_reducible refine Fr.step ?_ (by assumption)))))).mono ?_
    rintro e w2 ⟨rfl, hf2⟩
    obtain ⟨⟨c0, hob⟩, hz⟩ := buf32 w w2 _ hf2
    have hfw2 : Fr w w2 := (by repeat (first | (with_reducible exact Fr.refl _) | ((with_reducible refine Fr.set ?_ ?_ _); focus (simp; done)) | (with_reducible refine Fr.alloc ?_ _) | (with_reducible refine Fr.drew ?_) | (with_reducible refine Fr.step ?_ (by assumption))))
    have hbl2 : w.heap.size < w2.heap.size := (Array.getElem?_eq_some_iff.1 hob).1
    have Hob := Lib.hid (show w2.drew.heap[w.heap.size]? = some (.cells c0 158 (0, 0)) from hob); clear hob
    have Hz := Lib.hid (show ∀ j, j < 32 → w2.drew.cell? ⟨w.heap.size, j, none⟩ = some (.int .u8 0) ∧ w2.drew.frozen? ⟨w.heap.size, j, none⟩ = false from fun j hj => ⟨(hz j hj).1, (hz j hj).2⟩); clear hz
    clear hf2
    go_wp2_with fail
    refine wp_region_any (by kernel_rfl) ?_
    change wpAny _ _ _ _ _ _ _ (World.drew _)
    refine wpAny_take (i := 0) (v := .slice (some ⟨w.heap.size, 0, none⟩) 32 32) rfl (by kernel_rfl) (by kernel_rfl) (by kernel_rfl) (fun _ _ _ h => h) (Or.inl ⟨by rfl, fun W => by first | (go_simp; done) | (go_simp; decide)⟩) ?_
    refine wpAny_take (i := 1) (v := .int .u64 D) rfl (by kernel_rfl) (by kernel_rfl) (by kernel_rfl) (fun _ _ _ h => h) (Or.inl ⟨by rfl, fun W => by first | (go_simp; done) | (go_simp; decide)⟩) ?_
    refine wpAny_take (i := 2) (v := .int .i64 (-(k : Int))) rfl (by kernel_rfl) (by kernel_rfl) (by kernel_rfl) (fun _ _ _ h => h) (Or.inl ⟨by rfl, fun W => by first | (go_simp; done) | (go_simp; decide)⟩) ?_
    refine wpAny_take (i := 3) (v := .int .u64 D) rfl (by kernel_rfl) (by kernel_rfl) (by kernel_rfl) (fun _ _ _ h => h) (Or.inl ⟨by rfl, fun W => by first | (go_simp; done) | (go_simp; decide)⟩) ?_
    refine wpAny_ready (rs := [4]) (by kernel_rfl) (by simp) ?_; refine AllReady.cons rfl (fun K hK => ?_) AllReady.nil; go_simp
    go_wp2_with (go_at_call 95; refine (HN.out D _ hD1 hD2 ((Hd.out.fr hfw2).fr ((Fr.refl _).drew))).mono ?_; rintro e w3 ⟨rfl, rfl⟩)
    refine wpAny_ready (rs := [5]) (by kernel_rfl) (by simp) ?_; refine AllReady.cons rfl (fun K hK => ?_) AllReady.nil; go_simp
    go_wp2_with (go_at_call 94; refine (setDigits_any HF.out D nd k w.heap.size w2.drew hD10 hD2 hnd32 hnd1 hk Hz.out c0 _ _ Hob.out).mono ?_; rintro e w4 ⟨z, rfl, htz, hfr4, hcl4, c1, hob4⟩)
    have hf4 : Fr w w4 := hfr4 w (Nat.le_refl _) (hfw2.drew)
    have hzK := Htr.out z htz
    have Hcl := Lib.hid hcl4; clear hcl4
    have Hob4 := Lib.hid hob4; clear hob4
    have Htz := Lib.hid htz; clear htz hfr4
    refine wpAny_ready (rs := [6]) (by kernel_rfl) (by simp) ?_; refine AllReady.cons rfl (fun K hK => ?_) AllReady.nil; go_simp; refine hK _ _ ?_; clear hK K
    refine wpAny_take (i := 7) (v := .int .i64 ((nd : Int) - k)) rfl (by kernel_rfl) (by kernel_rfl) (by kernel_rfl) (fun _ _ _ h => h) (Or.inl ⟨by rfl, fun W => by first | (go_simp; done) | (go_simp; decide)⟩) ?_
    refine wpAny_take (i := 8) (v := .int .i64 z) rfl (by kernel_rfl) (by kernel_rfl) (by kernel_rfl) (fun _ _ _ h => h) (Or.inl ⟨by rfl, fun W => by first | (go_simp; done) | (go_simp; decide)⟩) ?_
    refine wpAny_ready (rs := [9]) (by kernel_rfl) (by simp) ?_; refine AllReady.cons rfl (fun K hK => ?_) AllReady.nil; go_simp; refine hK _ _ ?_; clear hK K
    refine wpAny_ready (rs := [10]) (by kernel_rfl) (by simp) ?_; refine AllReady.cons rfl (fun K hK => ?_) AllReady.nil; go_simp; refine hK _ _ ?_; clear hK K
    refine wpAny_done (by kernel_rfl) ?_ _
    go_wp2_with fail
    refine (fmtEFG_int B w.heap.size D nd z Kd false dst w4 c1 _ (own_fr HO.out hf4) (by have := hf4.size; omega) Hob4.out Hcl.out hzK hK1 hK6 Htz.out.1 hnd32).mono ?_
    rintro e w5 ⟨v, rfl, hown5, hfr5⟩
    have Hown5 := Lib.hid hown5; clear hown5
    have hfr6 : ∀ w0, w0.heap.size ≤ B → Fr w0 w → Fr w0 w5 := fun w0 h0 h => hfr5 w0 h0 (h.step hf4)
    clear hfr5
    go_wp2
    go_ret
    exact ⟨_, z, Htz.out, rfl, by simpa using Hown5.out, hfr6⟩
  · skip
    simp only [if_true] at hneg ⊢
    go_enter Tryz.func72, Tryz.ntmps72
    go_wp2_with fail
    refine wp_region_any (by kernel_rfl) ?_
    change wpAny _ _ _ _ _ _ _ (World.drew _)
    refine wpAny_take (i := 0) (v := .int .u64 X) rfl (by kernel_rfl) (by kernel_rfl) (by kernel_rfl) (fun _ _ _ h => h) (Or.inl ⟨by rfl, fun W => by first | (go_simp; done) | (go_simp; decide)⟩) ?_
    refine wpAny_take (i := 1) (v := .int .i64 52) rfl (by kernel_rfl) (by kernel_rfl) (by kernel_rfl) (fun _ _ _ h => h) (Or.inl ⟨by rfl, fun W => by first | (go_simp; done) | (go_simp; decide)⟩) ?_
    refine wpAny_take (i := 4) (v := .int .i64 11) rfl (by kernel_rfl) (by kernel_rfl) (by kernel_rfl) (fun _ _ _ h => h) (Or.inl ⟨by rfl, fun W => by first | (go_simp; done) | (go_simp; decide)⟩) ?_
    refine wpAny_take (i := 5) (v := .int .i64 2048) rfl (by kernel_rfl) (by kernel_rfl) (by kernel_rfl) (fun _ _ _ h => h) (Or.inl ⟨by rfl, fun W => by first | (go_simp; done) | (go_simp; decide)⟩) ?_
    refine wpAny_take (i := 6) (v := .int .i64 2047) rfl (by kernel_rfl) (by kernel_rfl) (by kernel_rfl) (fun _ _ _ h => h) (Or.inl ⟨by rfl, fun W => by first | (go_simp; done) | (go_simp; decide)⟩) ?_
    refine wpAny_ready (rs := [2]) (by kernel_rfl) (by simp) ?_; refine AllReady.cons rfl (fun K hK => ?_) AllReady.nil; go_simp; refine hK _ _ ?_; clear hK K
    refine wpAny_ready (rs := [3]) (by kernel_rfl) (by simp) ?_; refine AllReady.cons rfl (fun K hK => ?_) AllReady.nil; go_simp; refine hK _ _ ?_; clear hK K
    refine wpAny_ready (rs := [7]) (by kernel_rfl) (by simp) ?_; refine AllReady.cons rfl (fun K hK => ?_) AllReady.nil; go_simp; refine hK _ _ ?_; clear hK K
    refine wpAny_ready (rs := [8]) (by kernel_rfl) (by simp) ?_; refine AllReady.cons rfl (fun K hK => ?_) AllReady.nil; go_simp; refine hK _ _ ?_; clear hK K
    refine wpAny_done (by kernel_rfl) ?_ _
    go_wp2_with fail
    refine (HLen.out _).mono ?_
    rintro e w1 ⟨rfl, rfl⟩
    go_wp2_with fail
    rw [show ((L : Int) + 1023 + -1023 - 11 - 52) = (L : Int) - 63 by omega]
    refine (HSf.out _ (Ht.out.fr (by repeat (first | (with_reducible exact Fr.refl _) | ((with_reducible refine Fr.set ?_ ?_ _); focus (simp; done)) | (with_reducible refine Fr.alloc ?_ _) | (with_reducible refine Fr.drew ?_) | (with_reducible refine Fr.step ?_ (by assumption)))))).mono ?_
    rintro e w2 ⟨rfl, hf2⟩
    obtain ⟨⟨c0, hob⟩, hz⟩ := buf32 w w2 _ hf2
    have hfw2 : Fr w w2 := (by repeat (first | (with_reducible exact Fr.refl _) | ((with_reducible refine Fr.set ?_ ?_ _); focus (simp; done)) | (with_reducible refine Fr.alloc ?_ _) | (with_reducible refine Fr.drew ?_) | (with_reducible refine Fr.step ?_ (by assumption))))
    have hbl2 : w.heap.size < w2.heap.size := (Array.getElem?_eq_some_iff.1 hob).1
    have Hob := Lib.hid (show w2.drew.heap[w.heap.size]? = some (.cells c0 158 (0, 0)) from hob); clear hob
    have Hz := Lib.hid (show ∀ j, j < 32 → w2.drew.cell? ⟨w.heap.size, j, none⟩ = some (.int .u8 0) ∧ w2.drew.frozen? ⟨w.heap.size, j, none⟩ = false from fun j hj => ⟨(hz j hj).1, (hz j hj).2⟩); clear hz
    clear hf2
    go_wp2_with fail
    refine wp_region_any (by kernel_rfl) ?_
    change wpAny _ _ _ _ _ _ _ (World.drew _)
    refine wpAny_take (i := 0) (v := .slice (some ⟨w.heap.size, 0, none⟩) 32 32) rfl (by kernel_rfl) (by kernel_rfl) (by kernel_rfl) (fun _ _ _ h => h) (Or.inl ⟨by rfl, fun W => by first | (go_simp; done) | (go_simp; decide)⟩) ?_
    refine wpAny_take (i := 1) (v := .int .u64 D) rfl (by kernel_rfl) (by kernel_rfl) (by kernel_rfl) (fun _ _ _ h => h) (Or.inl ⟨by rfl, fun W => by first | (go_simp; done) | (go_simp; decide)⟩) ?_
    refine wpAny_take (i := 2) (v := .int .i64 (-(k : Int))) rfl (by kernel_rfl) (by kernel_rfl) (by kernel_rfl) (fun _ _ _ h => h) (Or.inl ⟨by rfl, fun W => by first | (go_simp; done) | (go_simp; decide)⟩) ?_
    refine wpAny_take (i := 3) (v := .int .u64 D) rfl (by kernel_rfl) (by kernel_rfl) (by kernel_rfl) (fun _ _ _ h => h) (Or.inl ⟨by rfl, fun W => by first | (go_simp; done) | (go_simp; decide)⟩) ?_
    refine wpAny_ready (rs := [4]) (by kernel_rfl) (by simp) ?_; refine AllReady.cons rfl (fun K hK => ?_) AllReady.nil; go_simp
    go_wp2_with (go_at_call 95; refine (HN.out D _ hD1 hD2 ((Hd.out.fr hfw2).fr ((Fr.refl _).drew))).mono ?_; rintro e w3 ⟨rfl, rfl⟩)
    refine wpAny_ready (rs := [5]) (by kernel_rfl) (by simp) ?_; refine AllReady.cons rfl (fun K hK => ?_) AllReady.nil; go_simp
    go_wp2_with (go_at_call 94; refine (setDigits_any HF.out D nd k w.heap.size w2.drew hD10 hD2 hnd32 hnd1 hk Hz.out c0 _ _ Hob.out).mono ?_; rintro e w4 ⟨z, rfl, htz, hfr4, hcl4, c1, hob4⟩)
    have hf4 : Fr w w4 := hfr4 w (Nat.le_refl _) (hfw2.drew)
    have hzK := Htr.out z htz
    have Hcl := Lib.hid hcl4; clear hcl4
    have Hob4 := Lib.hid hob4; clear hob4
    have Htz := Lib.hid htz; clear htz hfr4
    refine wpAny_ready (rs := [6]) (by kernel_rfl) (by simp) ?_; refine AllReady.cons rfl (fun K hK => ?_) AllReady.nil; go_simp; refine hK _ _ ?_; clear hK K
    refine wpAny_take (i := 7) (v := .int .i64 ((nd : Int) - k)) rfl (by kernel_rfl) (by kernel_rfl) (by kernel_rfl) (fun _ _ _ h => h) (Or.inl ⟨by rfl, fun W => by first | (go_simp; done) | (go_simp; decide)⟩) ?_
    refine wpAny_take (i := 8) (v := .int .i64 z) rfl (by kernel_rfl) (by kernel_rfl) (by kernel_rfl) (fun _ _ _ h => h) (Or.inl ⟨by rfl, fun W => by first | (go_simp; done) | (go_simp; decide)⟩) ?_
    refine wpAny_ready (rs := [9]) (by kernel_rfl) (by simp) ?_; refine AllReady.cons rfl (fun K hK => ?_) AllReady.nil; go_simp; refine hK _ _ ?_; clear hK K
    refine wpAny_ready (rs := [10]) (by kernel_rfl) (by simp) ?_; refine AllReady.cons rfl (fun K hK => ?_) AllReady.nil; go_simp; refine hK _ _ ?_; clear hK K
    refine wpAny_done (by kernel_rfl) ?_ _
    go_wp2_with fail
    refine (fmtEFG_int B w.heap.size D nd z Kd true dst w4 c1 _ (own_fr HO.out hf4) (by have := hf4.size; omega) Hob4.out Hcl.out hzK hK1 hK6 Htz.out.1 hnd32).mono ?_
    rintro e w5 ⟨v, rfl, hown5, hfr5⟩
    have Hown5 := Lib.hid hown5; clear hown5
    have hfr6 : ∀ w0, w0.heap.size ≤ B → Fr w0 w → Fr w0 w5 := fun w0 h0 h => hfr5 w0 h0 (h.step hf4)
    clear hfr5
    go_wp2
    go_ret
    exact ⟨_, z, Htz.out, rfl, by simpa using Hown5.out, hfr6⟩
end Go.Proofs.YtlhonpmpchkkfaaGreatDoor
