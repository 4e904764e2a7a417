import Derived.Test.YtnpnclhjfemldaaGreatDoorN8
import Derived.Test.YtnpnclhjfemldaaGreatDoorS19
set_option linter.unusedSimpArgs false
set_option linter.unusedVariables false
/- A whole number below 2^20 as text, in the format %g. -/
namespace Go.Proofs.YtnpnclhjfemldaaGreatDoor
open Go.RowKit
open Fl
open Go.Lib (dg nDigits FmtInv decDigits)
theorem bits_run (x : Nat) (w : World) : (callFunc 226 #[.float .f64 x]).run Tryz.prog w = .ok (.value (.int .u64 x)) w := by kernel_rfl
theorem i64_and2047 (n : Int) : bits .and .i64 n 2047 = n % 2048 := by
  have h1 : (BitVec.ofInt 64 2047).toNat = 2 ^ 11 - 1 := by decide
  have key : (BitVec.ofInt 64 n &&& BitVec.ofInt 64 2047).toNat = (n % ((2 ^ 64 : Nat) : Int)).toNat % 2 ^ 11 := by
    rw [BitVec.toNat_and, BitVec.toNat_ofInt, h1, Nat.and_two_pow_sub_one_eq_mod]
  show IntKind.i64.wrap ((BitVec.ofInt 64 n &&& BitVec.ofInt 64 2047).toNat : Nat) = n % 2048
  rw [key, IntKind.wrap_i64]
  omega
theorem u64_mant (x : Nat) (h : x < 18446744073709551616) : bits .and .u64 (x : Int) 4503599627370495 = ((x % 4503599627370496 : Nat) : Int) := by
  have := u64_and_nat x 4503599627370495 h (by decide)
  rw [show ((4503599627370495 : Nat) : Int) = 4503599627370495 from rfl] at this
  rw [this, show (4503599627370495 : Nat) = 2 ^ 52 - 1 from rfl, Nat.and_two_pow_sub_one_eq_mod]
theorem u64_lead (x : Nat) (h : x < 4503599627370496) : bits .or .u64 (x : Int) 4503599627370496 = ((x + 4503599627370496 : Nat) : Int) := by
  have := u64_or_nat x 4503599627370496 (by omega) (by decide)
  rw [show ((4503599627370496 : Nat) : Int) = 4503599627370496 from rfl] at this
  rw [this, Nat.or_comm, show (4503599627370496 : Nat) = 2 ^ 52 * 1 from rfl, ← Nat.two_pow_add_eq_or_of_lt (show x < 2 ^ 52 from h)]
  omega
theorem bitLen53 (x : Nat) (h0 : 2 ^ 52 ≤ x) (h1 : x < 2 ^ 53) : Lib.bitLen x = 53 := by
  rw [Lib.bitLen_shift 52 x h0 (by omega), show x / 2 ^ 52 = 1 by omega]
  decide
set_option maxRecDepth 100000 in
set_option maxHeartbeats 4000000 in
theorem fmtEFG_zero (B : Nat) (dst : Value) (w : World) (hown : w.ownsRow B 5 1 dst 0 []) (hB : B ≤ w.heap.size) :
    Calls Tryz.prog 229 #[dst, .bool false, .slice none 0 0, .int .i64 0, .int .i64 0, .int .i64 (-1), .int .u8 103, .bool true] w fun e w' => ∃ v,
      e = .returned v ∧ w'.ownsRow B 5 1 v 1 [.int .u8 48] ∧ (∀ w0, w0.heap.size ≤ B → Fr w0 w → Fr w0 w') := by
  obtain ⟨i0, hi, hz0, hz1, hz2⟩ := info_u8
  have HO := Lib.hid hown; clear hown
  go_enter Tryz.func229, Tryz.ntmps229
  go_wp2_with (at_builtin; refine wpList_append_own _ rfl _ _ 145 rfl B 5 i0 (.int .u8 0) 1 1 Tryz.underlying145 hi hz0 hz1 hz2 rfl (by decide) _ _ _ rfl (HO.out.alloc _) ⟨w.heap.size, 0, none⟩ 1 1 [.int .u8 48] rfl rfl (byte_new _ _ _) (byte_one _) (by simp only [maxLen]; omega) (by omega) (by simp; omega) ?_)
  intro v1 W1 hown1 hgrow1 _
  have hfr1 : ∀ w0, w0.heap.size ≤ B → Fr w0 w → Fr w0 W1 := fun w0 h0 h => (h.alloc _).grown hgrow1 (fun k hk => Nat.le_trans h0 ((HO.out.alloc (.cells #[.int .u8 48] 5)).lt k hk).1)
  clear hgrow1
  go_wp2
  go_ret
  exact ⟨_, rfl, hown1, hfr1⟩
end Go.Proofs.YtnpnclhjfemldaaGreatDoor
/- A whole number below 2^20 as text, in the format %g. -/
namespace Go.Proofs.YtnpnclhjfemldaaGreatDoor
open Go.RowKit
open Fl
open Go.Lib (dg nDigits FmtInv decDigits)
def DT (w : World) : Prop := Lib.TabIs Tryz.prog w "internal/strconv.uint64pow10" .u64 Lib.pow10Tab
theorem DT.fr {w w' : World} (h : DT w) (hf : Fr w w') : DT w' := by
  unfold DT Lib.TabIs at *
  have hg : Tryz.prog.globalNamed "internal/strconv.uint64pow10" = some 2 := by kernel_rfl
  have hlt : 2 < w.heap.size := by
    have := h
    simp only [World.var?, hg] at this
    rcases Nat.lt_or_ge 2 w.heap.size with h' | h'
    · exact h'
    · simp [Array.getElem?_eq_none h'] at this
  simp only [World.var?, hg, Option.bind_some] at h ⊢
  rw [hf.block _ hlt]; exact h
theorem zeros32 (j : Nat) (h : j < 32) : (#[Value.int .u8 0, Value.int .u8 0, Value.int .u8 0, Value.int .u8 0, Value.int .u8 0, Value.int .u8 0, Value.int .u8 0, Value.int .u8 0, Value.int .u8 0, Value.int .u8 0, Value.int .u8 0, Value.int .u8 0, Value.int .u8 0, Value.int .u8 0, Value.int .u8 0, Value.int .u8 0, Value.int .u8 0, Value.int .u8 0, Value.int .u8 0, Value.int .u8 0, Value.int .u8 0, Value.int .u8 0, Value.int .u8 0, Value.int .u8 0, Value.int .u8 0, Value.int .u8 0, Value.int .u8 0, Value.int .u8 0, Value.int .u8 0, Value.int .u8 0, Value.int .u8 0, Value.int .u8 0] : Array Value)[j]? = some (.int .u8 0) := by
  show (Array.replicate 32 (Value.int .u8 0))[j]? = _
  simp [h]
theorem buf32 (w w2 : World) (t : TypeId) (hf : Fr (w.alloc (.cells #[Value.int .u8 0, Value.int .u8 0, Value.int .u8 0, Value.int .u8 0, Value.int .u8 0, Value.int .u8 0, Value.int .u8 0, Value.int .u8 0, Value.int .u8 0, Value.int .u8 0, Value.int .u8 0, Value.int .u8 0, Value.int .u8 0, Value.int .u8 0, Value.int .u8 0, Value.int .u8 0, Value.int .u8 0, Value.int .u8 0, Value.int .u8 0, Value.int .u8 0, Value.int .u8 0, Value.int .u8 0, Value.int .u8 0, Value.int .u8 0, Value.int .u8 0, Value.int .u8 0, Value.int .u8 0, Value.int .u8 0, Value.int .u8 0, Value.int .u8 0, Value.int .u8 0, Value.int .u8 0] t)).drew w2) : (∃ c0, w2.heap[w.heap.size]? = some (.cells c0 t (0, 0))) ∧ ∀ j, j < 32 → w2.cell? ⟨w.heap.size, j, none⟩ = some (.int .u8 0) ∧ w2.frozen? ⟨w.heap.size, j, none⟩ = false := by
  have hb : w2.heap[w.heap.size]? = some (.cells #[Value.int .u8 0, Value.int .u8 0, Value.int .u8 0, Value.int .u8 0, Value.int .u8 0, Value.int .u8 0, Value.int .u8 0, Value.int .u8 0, Value.int .u8 0, Value.int .u8 0, Value.int .u8 0, Value.int .u8 0, Value.int .u8 0, Value.int .u8 0, Value.int .u8 0, Value.int .u8 0, Value.int .u8 0, Value.int .u8 0, Value.int .u8 0, Value.int .u8 0, Value.int .u8 0, Value.int .u8 0, Value.int .u8 0, Value.int .u8 0, Value.int .u8 0, Value.int .u8 0, Value.int .u8 0, Value.int .u8 0, Value.int .u8 0, Value.int .u8 0, Value.int .u8 0, Value.int .u8 0] t (0, 0)) := (hf.block w.heap.size (by simp)).trans (heap_alloc_new w _)
  refine ⟨⟨_, hb⟩, fun j hj => ⟨(Lib.cell_of_heap hb j).trans (zeros32 j hj), ?_⟩⟩
  simp [World.frozen?, hb]
set_option maxRecDepth 100000 in
set_option maxHeartbeats 4000000 in
theorem ftoa64_core (hLc : LenC) (hNc : NumC) (hFc : FmtC) (B X E M0 M L k D nd Kd : Nat) (neg : Bool) (dst : Value) (w : World)
    (hX : X < 18446744073709551616) (hneg : (X : Int) / 9223372036854775808 = if neg then 1 else 0) (e52 : (X : Int) / 4503599627370496 = (E : Int)) (hE : E < 4096) (eE : bits .and .i64 (E : Int) 2047 = (L : Int) + 1023) (hL : L < 20)
    (eM : bits .and .u64 (X : Int) 4503599627370495 = (M0 : Int)) (hM0 : M0 < 4503599627370496) (hM1 : (M0 + 4503599627370496) * 2048 = M) (hM2 : M < 18446744073709551616)
    (hbl : Lib.bitLen (M0 + 4503599627370496) = 53) (hsf : ∀ w, PT w → Calls Tryz.prog 239 #[.int .u64 M, .int .i64 ((L : Int) - 63)] w fun e w' => e = .returned (.tuple #[.int .u64 D, .int .i64 (-(k : Int))]) ∧ Fr w w')
    (hD1 : 1 ≤ D) (hD2 : D < 18446744073709551616) (hnd : nDigits D = nd) (hnd32 : nd ≤ 32) (hk : k ≤ 100) (hKe : nd = Kd + k) (hK1 : 1 ≤ Kd) (hK6 : Kd ≤ 6) (htr : ∀ z, Trimmed D nd z → z ≤ Kd)
    (ht : PT w) (hd : DT w) (hown : w.ownsRow B 5 1 dst 0 []) (hB : B ≤ w.heap.size) :
    Calls Tryz.prog 218 #[dst, .float .f64 X, .int .u8 103, .int .i64 (-1)] w fun e w' => ∃ v z, Trimmed D nd z ∧
      e = .returned v ∧ w'.ownsRow B 5 1 v ((if neg then 1 else 0) + Kd) (Lib.byteCells (digs (if neg then [45] else []) D nd z ++ List.replicate (Kd - z) 48)) ∧ (∀ w0, w0.heap.size ≤ B → Fr w0 w → Fr w0 w') := by
  have hbr := bits_run X
  have eM2 := u64_lead M0 hM0
  have eM3 : ((M0 + 4503599627370496 : Nat) : Int) * 2048 = (M : Int) := by omega
  have HLen := Lib.hid (fun w => hLc (M0 + 4503599627370496) w (by omega))
  rw [hbl] at HLen
  have hM9 : ((M0 + 4503599627370496 : Nat) : Int) ≠ 0 := by omega
  generalize hMM : M0 + 4503599627370496 = MM at *
  have HSf := Lib.hid hsf; clear hsf
  have Ht := Lib.hid ht; clear ht
  have Hd := Lib.hid hd; clear hd
  have HO := Lib.hid hown; clear hown
  have HN := Lib.hid hNc; clear hNc
  have HF := Lib.hid hFc; clear hFc
  have Htr := Lib.hid htr; clear htr
  have hD10 : D < 10 ^ nd := by rw [← hnd]; exact Lib.lt_pow_nDigits D
  have hnd1 : 1 ≤ nd := by omega
  have hKi : (nd : Int) - k = Kd := by omega
  have hndi : (nd : Int) = Kd + k := by omega
  have Hndi := Lib.hid hndi; clear hndi
  have HKe := Lib.hid hKe; clear hKe
  clear hLc hM1 hMM hbl
  cases neg
  · skip
    simp only [Bool.false_eq_true, if_false] at hneg ⊢
    go_enter Tryz.func218, Tryz.ntmps218
    go_wp2_with fail
    refine wp_region_any (by kernel_rfl) ?_
    change wpAny _ _ _ _ _ _ _ (World.drew _)
    refine wpAny_take (i := 0) (v := .int .u64 X) rfl (by kernel_rfl) (by kernel_rfl) (by kernel_rfl) (fun _ _ _ h => h) (Or.inl ⟨by rfl, fun W => by first | (go_simp; done) | (go_simp; decide)⟩) ?_
    refine wpAny_take (i := 1) (v := .int .i64 52) rfl (by kernel_rfl) (by kernel_rfl) (by kernel_rfl) (fun _ _ _ h => h) (Or.inl ⟨by rfl, fun W => by first | (go_simp; done) | (go_simp; decide)⟩) ?_
    refine wpAny_take (i := 4) (v := .int .i64 11) rfl (by kernel_rfl) (by kernel_rfl) (by kernel_rfl) (fun _ _ _ h => h) (Or.inl ⟨by rfl, fun W => by first | (go_simp; done) | (go_simp; decide)⟩) ?_
    refine wpAny_take (i := 5) (v := .int .i64 2048) rfl (by kernel_rfl) (by kernel_rfl) (by kernel_rfl) (fun _ _ _ h => h) (Or.inl ⟨by rfl, fun W => by first | (go_simp; done) | (go_simp; decide)⟩) ?_
    refine wpAny_take (i := 6) (v := .int .i64 2047) rfl (by kernel_rfl) (by kernel_rfl) (by kernel_rfl) (fun _ _ _ h => h) (Or.inl ⟨by rfl, fun W => by first | (go_simp; done) | (go_simp; decide)⟩) ?_
    refine wpAny_ready (rs := [2]) (by kernel_rfl) (by simp) ?_; refine AllReady.cons rfl (fun K hK => ?_) AllReady.nil; go_simp; refine hK _ _ ?_; clear hK K
    refine wpAny_ready (rs := [3]) (by kernel_rfl) (by simp) ?_; refine AllReady.cons rfl (fun K hK => ?_) AllReady.nil; go_simp; refine hK _ _ ?_; clear hK K
    refine wpAny_ready (rs := [7]) (by kernel_rfl) (by simp) ?_; refine AllReady.cons rfl (fun K hK => ?_) AllReady.nil; go_simp; refine hK _ _ ?_; clear hK K
    refine wpAny_ready (rs := [8]) (by kernel_rfl) (by simp) ?_; refine AllReady.cons rfl (fun K hK => ?_) AllReady.nil; go_simp; refine hK _ _ ?_; clear hK K
    refine wpAny_done (by kernel_rfl) ?_ _
    go_wp2_with fail
    refine (HLen.out _).mono ?_
    rintro e w1 ⟨rfl, rfl⟩
    go_wp2_with fail
    rw [show ((L : Int) + 1023 + -1023 - 11 - 52) = (L : Int) - 63 by omega]
    refine (HSf.out _ (Ht.out.fr (by repeat (first | (with_reducible exact Fr.refl _) | ((with_reducible refine Fr.set ?_ ?_ _); focus (simp; done)) | (with_reducible refine Fr.alloc ?_ _) | (with_reducible refine Fr.drew ?_) | (with_reducible refine Fr.step ?_ (by assumption)))))).mono ?_
    rintro e w2 ⟨rfl, hf2⟩
    obtain ⟨⟨c0, hob⟩, hz⟩ := buf32 w w2 _ hf2
    have hfw2 : Fr w w2 := (by repeat (first | (with_reducible exact Fr.refl _) | ((with_reducible refine Fr.set ?_ ?_ _); focus (simp; done)) | (with_reducible refine Fr.alloc ?_ _) | (with_reducible refine Fr.drew ?_) | (with_reducible refine Fr.step ?_ (by assumption))))
    have hbl2 : w.heap.size < w2.heap.size := (Array.getElem?_eq_some_iff.1 hob).1
    have Hob := Lib.hid (show w2.drew.heap[w.heap.size]? = some (.cells c0 179 (0, 0)) from hob); clear hob
    have Hz := Lib.hid (show ∀ j, j < 32 → w2.drew.cell? ⟨w.heap.size, j, none⟩ = some (.int .u8 0) ∧ w2.drew.frozen? ⟨w.heap.size, j, none⟩ = false from fun j hj => ⟨(hz j hj).1, (hz j hj).2⟩); clear hz
    clear hf2
    go_wp2_with fail
    refine wp_region_any (by kernel_rfl) ?_
    change wpAny _ _ _ _ _ _ _ (World.drew _)
    refine wpAny_take (i := 0) (v := .slice (some ⟨w.heap.size, 0, none⟩) 32 32) rfl (by kernel_rfl) (by kernel_rfl) (by kernel_rfl) (fun _ _ _ h => h) (Or.inl ⟨by rfl, fun W => by first | (go_simp; done) | (go_simp; decide)⟩) ?_
    refine wpAny_take (i := 1) (v := .int .u64 D) rfl (by kernel_rfl) (by kernel_rfl) (by kernel_rfl) (fun _ _ _ h => h) (Or.inl ⟨by rfl, fun W => by first | (go_simp; done) | (go_simp; decide)⟩) ?_
    refine wpAny_take (i := 2) (v := .int .i64 (-(k : Int))) rfl (by kernel_rfl) (by kernel_rfl) (by kernel_rfl) (fun _ _ _ h => h) (Or.inl ⟨by rfl, fun W => by first | (go_simp; done) | (go_simp; decide)⟩) ?_
    refine wpAny_take (i := 3) (v := .int .u64 D) rfl (by kernel_rfl) (by kernel_rfl) (by kernel_rfl) (fun _ _ _ h => h) (Or.inl ⟨by rfl, fun W => by first | (go_simp; done) | (go_simp; decide)⟩) ?_
    refine wpAny_ready (rs := [4]) (by kernel_rfl) (by simp) ?_; refine AllReady.cons rfl (fun K hK => ?_) AllReady.nil; go_simp
    go_wp2_with (go_at_call 233; refine (HN.out D _ hD1 hD2 ((Hd.out.fr hfw2).fr ((Fr.refl _).drew))).mono ?_; rintro e w3 ⟨rfl, rfl⟩)
    refine wpAny_ready (rs := [5]) (by kernel_rfl) (by simp) ?_; refine AllReady.cons rfl (fun K hK => ?_) AllReady.nil; go_simp
    go_wp2_with (go_at_call 232; refine (setDigits_any HF.out D nd k w.heap.size w2.drew hD10 hD2 hnd32 hnd1 hk Hz.out c0 _ _ Hob.out).mono ?_; rintro e w4 ⟨z, rfl, htz, hfr4, hcl4, c1, hob4⟩)
    have hf4 : Fr w w4 := hfr4 w (Nat.le_refl _) (hfw2.drew)
    have hzK := Htr.out z htz
    have Hcl := Lib.hid hcl4; clear hcl4
    have Hob4 := Lib.hid hob4; clear hob4
    have Htz := Lib.hid htz; clear htz hfr4
    refine wpAny_ready (rs := [6]) (by kernel_rfl) (by simp) ?_; refine AllReady.cons rfl (fun K hK => ?_) AllReady.nil; go_simp; refine hK _ _ ?_; clear hK K
    refine wpAny_take (i := 7) (v := .int .i64 ((nd : Int) - k)) rfl (by kernel_rfl) (by kernel_rfl) (by kernel_rfl) (fun _ _ _ h => h) (Or.inl ⟨by rfl, fun W => by first | (go_simp; done) | (go_simp; decide)⟩) ?_
    refine wpAny_take (i := 8) (v := .int .i64 z) rfl (by kernel_rfl) (by kernel_rfl) (by kernel_rfl) (fun _ _ _ h => h) (Or.inl ⟨by rfl, fun W => by first | (go_simp; done) | (go_simp; decide)⟩) ?_
    refine wpAny_ready (rs := [9]) (by kernel_rfl) (by simp) ?_; refine AllReady.cons rfl (fun K hK => ?_) AllReady.nil; go_simp; refine hK _ _ ?_; clear hK K
    refine wpAny_ready (rs := [10]) (by kernel_rfl) (by simp) ?_; refine AllReady.cons rfl (fun K hK => ?_) AllReady.nil; go_simp; refine hK _ _ ?_; clear hK K
    refine wpAny_done (by kernel_rfl) ?_ _
    go_wp2_with fail
    refine (fmtEFG_int B w.heap.size D nd z Kd false dst w4 c1 _ (own_fr HO.out hf4) (by have := hf4.size; omega) Hob4.out Hcl.out hzK hK1 hK6 Htz.out.1 hnd32).mono ?_
    rintro e w5 ⟨v, rfl, hown5, hfr5⟩
    have Hown5 := Lib.hid hown5; clear hown5
    have hfr6 : ∀ w0, w0.heap.size ≤ B → Fr w0 w → Fr w0 w5 := fun w0 h0 h => hfr5 w0 h0 (h.step hf4)
    clear hfr5
    go_wp2
    go_ret
    exact ⟨_, z, Htz.out, rfl, by simpa using Hown5.out, hfr6⟩
  · skip
    simp only [if_true] at hneg ⊢
    go_enter Tryz.func218, Tryz.ntmps218
    go_wp2_with fail
    refine wp_region_any (by kernel_rfl) ?_
    change wpAny _ _ _ _ _ _ _ (World.drew _)
    refine wpAny_take (i := 0) (v := .int .u64 X) rfl (by kernel_rfl) (by kernel_rfl) (by kernel_rfl) (fun _ _ _ h => h) (Or.inl ⟨by rfl, fun W => by first | (go_simp; done) | (go_simp; decide)⟩) ?_
    refine wpAny_take (i := 1) (v := .int .i64 52) rfl (by kernel_rfl) (by kernel_rfl) (by kernel_rfl) (fun _ _ _ h => h) (Or.inl ⟨by rfl, fun W => by first | (go_simp; done) | (go_simp; decide)⟩) ?_
    refine wpAny_take (i := 4) (v := .int .i64 11) rfl (by kernel_rfl) (by kernel_rfl) (by kernel_rfl) (fun _ _ _ h => h) (Or.inl ⟨by rfl, fun W => by first | (go_simp; done) | (go_simp; decide)⟩) ?_
    refine wpAny_take (i := 5) (v := .int .i64 2048) rfl (by kernel_rfl) (by kernel_rfl) (by kernel_rfl) (fun _ _ _ h => h) (Or.inl ⟨by rfl, fun W => by first | (go_simp; done) | (go_simp; decide)⟩) ?_
    refine wpAny_take (i := 6) (v := .int .i64 2047) rfl (by kernel_rfl) (by kernel_rfl) (by kernel_rfl) (fun _ _ _ h => h) (Or.inl ⟨by rfl, fun W => by first | (go_simp; done) | (go_simp; decide)⟩) ?_
    refine wpAny_ready (rs := [2]) (by kernel_rfl) (by simp) ?_; refine AllReady.cons rfl (fun K hK => ?_) AllReady.nil; go_simp; refine hK _ _ ?_; clear hK K
    refine wpAny_ready (rs := [3]) (by kernel_rfl) (by simp) ?_; refine AllReady.cons rfl (fun K hK => ?_) AllReady.nil; go_simp; refine hK _ _ ?_; clear hK K
    refine wpAny_ready (rs := [7]) (by kernel_rfl) (by simp) ?_; refine AllReady.cons rfl (fun K hK => ?_) AllReady.nil; go_simp; refine hK _ _ ?_; clear hK K
    refine wpAny_ready (rs := [8]) (by kernel_rfl) (by simp) ?_; refine AllReady.cons rfl (fun K hK => ?_) AllReady.nil; go_simp; refine hK _ _ ?_; clear hK K
    refine wpAny_done (by kernel_rfl) ?_ _
    go_wp2_with fail
    refine (HLen.out _).mono ?_
    rintro e w1 ⟨rfl, rfl⟩
    go_wp2_with fail
    rw [show ((L : Int) + 1023 + -1023 - 11 - 52) = (L : Int) - 63 by omega]
    refine (HSf.out _ (Ht.out.fr (by repeat (first | (with_reducible exact Fr.refl _) | ((with_reducible refine Fr.set ?_ ?_ _); focus (simp; done)) | (with_reducible refine Fr.alloc ?_ _) | (with_reducible refine Fr.drew ?_) | (with_reducible refine Fr.step ?_ (by assumption)))))).mono ?_
    rintro e w2 ⟨rfl, hf2⟩
    obtain ⟨⟨c0, hob⟩, hz⟩ := buf32 w w2 _ hf2
    have hfw2 : Fr w w2 := (by repeat (first | (with_reducible exact Fr.refl _) | ((with_reducible refine Fr.set ?_ ?_ _); focus (simp; done)) | (with_reducible refine Fr.alloc ?_ _) | (with_reducible refine Fr.drew ?_) | (with_reducible refine Fr.step ?_ (by assumption))))
    have hbl2 : w.heap.size < w2.heap.size := (Array.getElem?_eq_some_iff.1 hob).1
    have Hob := Lib.hid (show w2.drew.heap[w.heap.size]? = some (.cells c0 179 (0, 0)) from hob); clear hob
    have Hz := Lib.hid (show ∀ j, j < 32 → w2.drew.cell? ⟨w.heap.size, j, none⟩ = some (.int .u8 0) ∧ w2.drew.frozen? ⟨w.heap.size, j, none⟩ = false from fun j hj => ⟨(hz j hj).1, (hz j hj).2⟩); clear hz
    clear hf2
    go_wp2_with fail
    refine wp_region_any (by kernel_rfl) ?_
    change wpAny _ _ _ _ _ _ _ (World.drew _)
    refine wpAny_take (i := 0) (v := .slice (some ⟨w.heap.size, 0, none⟩) 32 32) rfl (by kernel_rfl) (by kernel_rfl) (by kernel_rfl) (fun _ _ _ h => h) (Or.inl ⟨by rfl, fun W => by first | (go_simp; done) | (go_simp; decide)⟩) ?_
    refine wpAny_take (i := 1) (v := .int .u64 D) rfl (by kernel_rfl) (by kernel_rfl) (by kernel_rfl) (fun _ _ _ h => h) (Or.inl ⟨by rfl, fun W => by first | (go_simp; done) | (go_simp; decide)⟩) ?_
    refine wpAny_take (i := 2) (v := .int .i64 (-(k : Int))) rfl (by kernel_rfl) (by kernel_rfl) (by kernel_rfl) (fun _ _ _ h => h) (Or.inl ⟨by rfl, fun W => by first | (go_simp; done) | (go_simp; decide)⟩) ?_
    refine wpAny_take (i := 3) (v := .int .u64 D) rfl (by kernel_rfl) (by kernel_rfl) (by kernel_rfl) (fun _ _ _ h => h) (Or.inl ⟨by rfl, fun W => by first | (go_simp; done) | (go_simp; decide)⟩) ?_
    refine wpAny_ready (rs := [4]) (by kernel_rfl) (by simp) ?_; refine AllReady.cons rfl (fun K hK => ?_) AllReady.nil; go_simp
    go_wp2_with (go_at_call 233; refine (HN.out D _ hD1 hD2 ((Hd.out.fr hfw2).fr ((Fr.refl _).drew))).mono ?_; rintro e w3 ⟨rfl, rfl⟩)
    refine wpAny_ready (rs := [5]) (by kernel_rfl) (by simp) ?_; refine AllReady.cons rfl (fun K hK => ?_) AllReady.nil; go_simp
    go_wp2_with (go_at_call 232; refine (setDigits_any HF.out D nd k w.heap.size w2.drew hD10 hD2 hnd32 hnd1 hk Hz.out c0 _ _ Hob.out).mono ?_; rintro e w4 ⟨z, rfl, htz, hfr4, hcl4, c1, hob4⟩)
    have hf4 : Fr w w4 := hfr4 w (Nat.le_refl _) (hfw2.drew)
    have hzK := Htr.out z htz
    have Hcl := Lib.hid hcl4; clear hcl4
    have Hob4 := Lib.hid hob4; clear hob4
    have Htz := Lib.hid htz; clear htz hfr4
    refine wpAny_ready (rs := [6]) (by kernel_rfl) (by simp) ?_; refine AllReady.cons rfl (fun K hK => ?_) AllReady.nil; go_simp; refine hK _ _ ?_; clear hK K
    refine wpAny_take (i := 7) (v := .int .i64 ((nd : Int) - k)) rfl (by kernel_rfl) (by kernel_rfl) (by kernel_rfl) (fun _ _ _ h => h) (Or.inl ⟨by rfl, fun W => by first | (go_simp; done) | (go_simp; decide)⟩) ?_
    refine wpAny_take (i := 8) (v := .int .i64 z) rfl (by kernel_rfl) (by kernel_rfl) (by kernel_rfl) (fun _ _ _ h => h) (Or.inl ⟨by rfl, fun W => by first | (go_simp; done) | (go_simp; decide)⟩) ?_
    refine wpAny_ready (rs := [9]) (by kernel_rfl) (by simp) ?_; refine AllReady.cons rfl (fun K hK => ?_) AllReady.nil; go_simp; refine hK _ _ ?_; clear hK K
    refine wpAny_ready (rs := [10]) (by kernel_rfl) (by simp) ?_; refine AllReady.cons rfl (fun K hK => ?_) AllReady.nil; go_simp; refine hK _ _ ?_; clear hK K
    refine wpAny_done (by kernel_rfl) ?_ _
    go_wp2_with fail
    refine (fmtEFG_int B w.heap.size D nd z Kd true dst w4 c1 _ (own_fr HO.out hf4) (by have := hf4.size; omega) Hob4.out Hcl.out hzK hK1 hK6 Htz.out.1 hnd32).mono ?_
    rintro e w5 ⟨v, rfl, hown5, hfr5⟩
    have Hown5 := Lib.hid hown5; clear hown5
    have hfr6 : ∀ w0, w0.heap.size ≤ B → Fr w0 w → Fr w0 w5 := fun w0 h0 h => hfr5 w0 h0 (h.step hf4)
    clear hfr5
    go_wp2
    go_ret
    exact ⟨_, z, Htz.out, rfl, by simpa using Hown5.out, hfr6⟩
end Go.Proofs.YtnpnclhjfemldaaGreatDoor
/- A whole number below 2^20 as text, in the format %g. -/
namespace Go.Proofs.YtnpnclhjfemldaaGreatDoor
open Go.RowKit
open Fl
open Go.Lib (dg nDigits FmtInv decDigits)
theorem itoa_neg (n : Int) (h : n < 0) : Lib.itoa n = 45 :: decDigits n.natAbs := by unfold Lib.itoa; rw [if_pos h]
theorem itoa_pos (n : Int) (h : ¬ n < 0) : Lib.itoa n = decDigits n.natAbs := by unfold Lib.itoa; rw [if_neg h, show n.toNat = n.natAbs by omega]
theorem nDigits6 (n : Nat) (h : n < 1000000) : nDigits n ≤ 6 := by
  rcases Nat.lt_or_ge (nDigits n) 7 with h7 | h7
  · omega
  · by_cases h10 : n < 10
    · rw [Lib.nDigits_small h10]; omega
    · rw [Lib.nDigits_big h10] at h7 ⊢
      have key : ∀ (j m : Nat), m < 10 ^ j → 1 ≤ j → nDigits m ≤ j := by
        intro j
        induction j with
        | zero => intro m _ h; omega
        | succ j ih =>
          intro m hm _
          by_cases hm10 : m < 10
          · rw [Lib.nDigits_small hm10]; omega
          · rw [Lib.nDigits_big hm10]
            have : 1 ≤ j := by
              rcases Nat.eq_zero_or_pos j with h0 | h0
              · subst h0; simp at hm; omega
              · exact h0
            have := ih (m / 10) (by rw [Nat.pow_succ] at hm; omega) this
            omega
      have := key 5 (n / 10) (by omega) (by omega)
      omega
/-- The trimmed digits of a number are not more than its own. -/
theorem trim_le (m k z : Nat) (hm : 1 ≤ m) (h : Trimmed (m * 10 ^ k) (nDigits m + k) z) : z ≤ nDigits m := by
  obtain ⟨h1, h2, h3⟩ := h
  rcases Nat.lt_or_ge (nDigits m) z with hz | hz
  · rcases h3 with rfl | h3
    · omega
    · exact absurd (dg_low m k (nDigits m + k - z) (by omega)) h3
  · exact hz
set_option maxRecDepth 100000 in
theorem ftoa64_int (hM : MulC) (hLc : LenC) (hNc : NumC) (hFc : FmtC) (B : Nat) (dst : Value) (n : Int) (w : World) (h0 : n ≠ 0) (hn : n.natAbs < 1000000) (ht : PT w) (hd : DT w)
    (hown : w.ownsRow B 5 1 dst 0 []) (hB : B ≤ w.heap.size) :
    Calls Tryz.prog 218 #[dst, .float .f64 (fw n), .int .u8 103, .int .i64 (-1)] w fun e w' => ∃ v,
      e = .returned v ∧ w'.ownsRow B 5 1 v (Lib.itoa n).length (Lib.byteCells (Lib.itoa n)) ∧ (∀ w0, w0.heap.size ≤ B → Fr w0 w → Fr w0 w') := by
  have hp : 0 < n.natAbs := by omega
  obtain ⟨q1, q2, q3, q4⟩ := fw_parts n h0 (by omega)
  obtain ⟨hL, hlo, hhi⟩ := log2_of n.natAbs hp (by omega)
  obtain ⟨r1, r2, r3⟩ := sized n.natAbs hp (by omega)
  obtain ⟨l1, l2, l3⟩ := left_end n.natAbs hp (by omega)
  obtain ⟨k, hk9, hk15, hk64, hsf⟩ := shortFloat_whole hM n.natAbs hp (by omega)
  have hp10 : 1 ≤ 10 ^ k := Nat.one_le_pow _ _ (by decide)
  have hk15p : 10 ^ k ≤ 10 ^ 15 := Nat.pow_le_pow_right (by decide) hk15
  have hD1 : 1 ≤ n.natAbs * 10 ^ k := Nat.mul_pos hp hp10
  have hnd := nDigits_mul n.natAbs hp k
  have hn6 := nDigits6 n.natAbs hn
  have hK1 := Lib.nDigits_pos n.natAbs
  have e52 : (fw n : Int) / 4503599627370496 = ((fw n / 4503599627370496 : Nat) : Int) := by omega
  have hm1 : (fw n % 4503599627370496 + 4503599627370496) * 2048 = n.natAbs * 2 ^ (63 - n.natAbs.log2) := by rw [← l1, ← q3]
  have h := ftoa64_core hLc hNc hFc B (fw n) (fw n / 4503599627370496) (fw n % 4503599627370496) (n.natAbs * 2 ^ (63 - n.natAbs.log2)) n.natAbs.log2 k (n.natAbs * 10 ^ k) (nDigits n.natAbs + k) (nDigits n.natAbs) (decide (n < 0)) dst w
    q4 (by by_cases hneg : n < 0 <;> simp [hneg] at q1 ⊢ <;> omega) e52 (by omega) (by rw [i64_and2047]; omega) hL (u64_mant _ q4) (by omega) hm1 l3
    (bitLen53 _ (by rw [q3] ; exact r2) (by rw [q3]; exact r3)) hsf hD1 hk64 hnd (by omega) (by omega) rfl hK1 hn6 (fun z hz => trim_le n.natAbs k z hp hz) ht hd hown hB
  refine h.mono ?_
  rintro e w' ⟨v, z, hz, rfl, hown', hfr⟩
  refine ⟨v, rfl, ?_, hfr⟩
  have hzK := trim_le n.natAbs k z hp hz
  have hl := laid_digits n.natAbs k z hp hzK hz.2.1
  by_cases hneg : n < 0
  · rw [itoa_neg n hneg]
    simp only [hneg, decide_true, if_true] at hown'
    have e : digs [45] (n.natAbs * 10 ^ k) (nDigits n.natAbs + k) z ++ List.replicate (nDigits n.natAbs - z) 48 = 45 :: decDigits n.natAbs := by
      unfold digs; rw [List.append_assoc, hl]; rfl
    rw [e] at hown'
    rwa [List.length_cons, Lib.decDigits_length, Nat.add_comm]
  · rw [itoa_pos n hneg]
    simp only [hneg, decide_false, if_false, Bool.false_eq_true, Nat.zero_add] at hown'
    have e : digs [] (n.natAbs * 10 ^ k) (nDigits n.natAbs + k) z ++ List.replicate (nDigits n.natAbs - z) 48 = decDigits n.natAbs := by
      unfold digs; rw [List.nil_append, hl]
    rw [e] at hown'
    rwa [Lib.decDigits_length]
end Go.Proofs.YtnpnclhjfemldaaGreatDoor
