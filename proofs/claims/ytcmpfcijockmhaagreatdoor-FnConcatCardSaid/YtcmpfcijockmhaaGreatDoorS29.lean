import Derived.Test.YtcmpfcijockmhaaGreatDoorS28
set_option linter.unusedSimpArgs false
set_option linter.unusedVariables false
namespace Go.Proofs.YtcmpfcijockmhaaGreatDoor
open Go.RowKit
open Fl
open Ieee (double)
/-- Texts joined. -/
def cat (l : List ByteArray) : ByteArray := l.foldl (· ++ ·) mt
theorem cat_step {l : List ByteArray} {k : Nat} (hk : k < l.length) : cat (l.take (k + 1)) = cat (l.take k) ++ l[k] := by
  unfold cat
  rw [List.take_succ_eq_append_getElem hk, List.foldl_append]; rfl
def total (l : List ByteArray) : Nat := (l.map ByteArray.size).foldl (· + ·) 0
theorem total_step {l : List ByteArray} {k : Nat} (hk : k < l.length) : total (l.take (k + 1)) = total (l.take k) + l[k].size := by
  unfold total
  rw [List.take_succ_eq_append_getElem hk, List.map_append, List.foldl_append]; rfl
theorem cat_size (l : List ByteArray) : ∀ k, k ≤ l.length → (cat (l.take k)).size = total (l.take k) := by
  intro k
  induction k with
  | zero => intro _; rfl
  | succ k ih =>
    intro hk
    rw [cat_step (by omega), total_step (by omega), ByteArray.size_append, ih (by omega)]
theorem total_mono {l : List ByteArray} : ∀ j k, k + j ≤ l.length → total (l.take k) ≤ total (l.take (k + j)) := by
  intro j
  induction j with
  | zero => intro k _; exact Nat.le_refl _
  | succ j ih =>
    intro k hk
    have h1 := ih k (by omega)
    have h2 := total_step (l := l) (k := k + j) (by omega)
    have h3 : k + (j + 1) = k + j + 1 := by omega
    rw [h3, h2]; omega
theorem total_le {l : List ByteArray} {k m : Nat} (hk : k ≤ l.length) (h : total l ≤ m) : total (l.take k) ≤ m := by
  have := total_mono (l := l) (l.length - k) k (by omega)
  have h2 : k + (l.length - k) = l.length := by omega
  rw [h2, List.take_length] at this
  omega
set_option maxRecDepth 100000 in
set_option maxHeartbeats 4000000 in
theorem joined_CONCAT (A : Option Addr) (cap : Nat) (l : List SVal) (w : World) (hv : VL w A l) (hn : 0 < l.length) (hk : ∀ x ∈ l, x = tx x.t ∧ x.t.size ≤ maxLen ∧ asc x.t.data.toList = true)
    (ht : total (l.map SVal.t) ≤ 20000) :
    Calls Tryz.prog 112 #[.string nmCONCAT, .slice A l.length cap] w fun e w' => e = .returned (sv 2 0 0 (cat (l.map SVal.t))) ∧ Fr w w' := by
  have hl := hv.1
  have Hv := Lib.hid hv; clear hv
  have HF := Lib.hid hk; clear hk
  have Ht0 := Lib.hid ht; clear ht
  unfold nmCONCAT
  obtain ⟨n, hnn⟩ : ∃ n, n = l.length := ⟨_, rfl⟩
  have Hn := Lib.hid hnn
  rw [← hnn] at hl hn ⊢
  clear hnn
  go_enter Tryz.func112, Tryz.ntmps112
  go_wp2_with fail
  rw [Hn.out]
  refine (Flat_flat A cap l _ (Hv.out.fr (by repeat (first | (with_reducible exact Fr.refl _) | ((with_reducible refine Fr.set ?_ ?_ _); focus (simp; done)) | (with_reducible refine Fr.alloc ?_ _) | (with_reducible refine Fr.drew ?_) | (with_reducible refine Fr.step ?_ (by assumption))))) (fun x hx => by rw [(HF.out x hx).1]; simp [tx])).mono ?_
  rintro e w1 ⟨A1, cap1, rfl, hV1, hf1⟩
  rw [← Hn.out]
  have HV1 := Lib.hid hV1; clear hV1
  have hlt1 := hf1.size
  simp at hlt1
  obtain ⟨hc1, hz1⟩ := hf1.cells
  simp at hc1 hz1
  have h01 : w.heap.size < w1.heap.size := by omega
  go_wp2_with fail
  rw [Hn.out]
  refine (texts_asc A1 cap1 l _ HV1.out HF.out).mono ?_
  rintro e w2 ⟨A2, cap2, rfl, hT, hf2⟩
  rw [← Hn.out]
  have HT := Lib.hid hT; clear hT
  have hlt2 := hf2.size
  obtain ⟨hc2, hz2⟩ := hf2.cells
  have h02 : w.heap.size < w2.heap.size := by omega
  have h03 : w.heap.size < w2.heap.size + 1 := by omega
  obtain ⟨ts, hts⟩ : ∃ ts, ts = l.map SVal.t := ⟨_, rfl⟩
  have Hts := Lib.hid hts
  have Hlen := Lib.hid (show ts.length = n by rw [hts, List.length_map, Hn.out])
  have Ht := Lib.hid (show total ts ≤ 20000 by rw [hts]; exact Ht0.out)
  have HT2 := Lib.hid (show TL w2 A2 ts by rw [hts]; exact HT.out)
  clear hts HT
  unfold sv
  go_wp2
  go_loop [8, 9] (fun v i => ∃ k : Nat, k ≤ n ∧ i = .int .i64 k ∧ v = .string (cat (ts.take k))) (fun _ i => n - (intOf i).toNat)
  case atStart => exact ⟨0, Nat.zero_le _, rfl, rfl⟩
  case round =>
    obtain ⟨k, hk, rfl, rfl⟩ := hrel
    have hsz := cat_size ts k (by rw [Hlen.out]; exact hk)
    have hle := total_le (l := ts) (k := k) (by rw [Hlen.out]; exact hk) Ht.out
    by_cases hlt : k < n
    · have hkt : k < ts.length := by rw [Hlen.out]; exact hlt
      obtain ⟨g, rfl, hg, c0⟩ := HT2.out.at hkt
      have hst := Lib.hid (cat_step hkt)
      have hle2 := total_le (l := ts) (k := k + 1) (by omega) Ht.out
      rw [total_step hkt] at hle2
      have hadd : (cat (ts.take k)).size + ts[k].size ≤ 9223372036854775807 := by omega
      clear hsz hle hle2
      generalize ts[k] = x at *
      go_wp2
      go_round
      case rel => exact ⟨k + 1, by omega, by simp, by rw [hst.out]⟩
      case measure => simp [intOf]; omega
    · have hkn : k = n := by omega
      subst hkn
      have Hall := Lib.hid (show ts.take k = ts by rw [← Hlen.out, List.take_length])
      have hsz2 : (cat (ts.take k)).size ≤ 20000 := by omega
      clear hsz hle
      go_wp2_with fail
      refine (Str_any _ _).mono ?_
      rintro e w3 ⟨rfl, hf3⟩
      have hlt3 := hf3.size
      simp at hlt3
      obtain ⟨hc3, hz3⟩ := hf3.cells
      simp at hc3 hz3
      have h04 : w.heap.size < w3.heap.size := by omega
      rw [Hall.out, Hts.out]
      unfold sv
      go_wp2
      exact bodyPost_ret (v := .agg #[.int .i64 2, .int .i64 0, .int .i64 0, .string (cat (l.map SVal.t)), .slice none 0 0]) (by simp [results, Tryz.results112, go_sem, sv, mt, *]) rfl ⟨rfl, (by repeat (first | (with_reducible exact Fr.refl _) | ((with_reducible refine Fr.set ?_ ?_ _); focus (simp; done)) | (with_reducible refine Fr.alloc ?_ _) | (with_reducible refine Fr.drew ?_) | (with_reducible refine Fr.step ?_ (by assumption))))⟩
end Go.Proofs.YtcmpfcijockmhaaGreatDoor
