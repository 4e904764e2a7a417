import Derived.Test.YtcmpfcijockmhaaGreatDoorS32
set_option linter.unusedSimpArgs false
set_option linter.unusedVariables false
namespace Go.Proofs.YtcmpfcijockmhaaGreatDoor
open Go.RowKit
open Fl
open Ieee (double)
/-- A slice of texts that came in. -/
def TA (w : World) (A : Option Addr) (l : List ByteArray) : Prop :=
  0 < l.length → ∃ g o, A = some ⟨g, o, none⟩ ∧ g < w.heap.size ∧ ∀ i x, l[i]? = some x → w.cell? ⟨g, o + i, none⟩ = some (.string x)
theorem TA.fr {w w' : World} {A : Option Addr} {l : List ByteArray} (h : TA w A l) (hf : Fr w w') : TA w' A l := fun hn => by
  obtain ⟨g, o, e, hg, hc⟩ := h hn
  exact ⟨g, o, e, Nat.lt_of_lt_of_le hg hf.size, fun i x hx => (hf.cells.1 _ _ hg).trans (hc i x hx)⟩
theorem TA.at {w : World} {A : Option Addr} {l : List ByteArray} (h : TA w A l) {i : Nat} (hi : i < l.length) :
    ∃ g o, A = some ⟨g, o, none⟩ ∧ g < w.heap.size ∧ w.cell? ⟨g, o + i, none⟩ = some (.string l[i]) := by
  obtain ⟨g, o, e, hg, hc⟩ := h (by omega)
  exact ⟨g, o, e, hg, hc i _ (List.getElem?_eq_getElem hi)⟩
def SomeBool (e : Ending) : Prop := ∃ b : Bool, e = .returned (.bool b)
theorem SomeBool.mk (b : Bool) : SomeBool (.returned (.bool b)) := ⟨b, rfl⟩
set_option maxRecDepth 100000 in
set_option maxHeartbeats 2000000 in
theorem zzFits6_some (A : Option Addr) (cap : Nat) (l : List ByteArray) (w : World) (hv : TA w A l) (hl : l.length ≤ 9223372036854775807) :
    Calls Tryz.prog 14 #[.slice A l.length cap] w fun e w' => SomeBool e ∧ w = w' := by
  have HV := Lib.hid hv; clear hv
  by_cases hbig : (2147483647 : Int) < l.length
  · go_enter Tryz.func14, Tryz.ntmps14
    go_wp2
    go_ret
    exact ⟨SomeBool.mk _, rfl⟩
  · go_enter Tryz.func14, Tryz.ntmps14
    go_wp2
    go_loop [10] (fun i => ∃ k : Nat, k ≤ l.length ∧ i = .int .i64 k) (fun i => l.length - (intOf i).toNat)
    case atStart => exact ⟨0, Nat.zero_le _, rfl⟩
    case round =>
      obtain ⟨k, hk, rfl⟩ := hrel
      by_cases hlt : k < l.length
      · obtain ⟨g, o, rfl, hg, c0⟩ := HV.out.at hlt
        by_cases hH : (2147483647 : Int) < l[k].size
        · generalize l[k] = x at *
          go_wp2
          go_ret
          exact ⟨SomeBool.mk _, rfl⟩
        · generalize l[k] = x at *
          go_wp2
          go_round
          case rel => exact ⟨k + 1, by omega, by simp⟩
          case measure => simp [intOf]; omega
      · go_wp2
        go_ret
        exact ⟨SomeBool.mk _, rfl⟩
set_option maxRecDepth 100000 in
set_option maxHeartbeats 2000000 in
theorem argTexts_any (A : Option Addr) (cap : Nat) (l : List ByteArray) (w : World) (hv : TA w A l) (hl : l.length ≤ 1000000) :
    Calls Tryz.prog 16 #[.slice A l.length cap] w fun e w' => ∃ A' cap', e = .returned (.slice A' l.length cap') ∧ VL w' A' (l.map tx) ∧ Fr w w' := by
  have Hv := Lib.hid hv; clear hv
  obtain ⟨i0, hi, hz0, hz1, hz2⟩ := info_parts Tryz.infoVal
  obtain ⟨n, hn⟩ : ∃ n, n = l.length := ⟨_, rfl⟩
  have Hn := Lib.hid hn
  rw [← hn] at hl ⊢
  clear hn
  obtain ⟨ys, hys⟩ : ∃ ys, ys = l.map tx := ⟨_, rfl⟩
  have Hy := Lib.hid hys
  have Hlen := Lib.hid (show ys.length = n by rw [hys, List.length_map, Hn.out])
  clear hys
  go_enter Tryz.func16, Tryz.ntmps16
  go_wp2
  go_loopw [3, 4] (fun v i wr => ∃ k : Nat, k ≤ n ∧ i = .int .i64 k ∧ wr.ownsRow w.heap.size 27 5 v k ((ys.take k).flatMap SVal.cells) ∧ Fr w wr) (fun _ i _ => n - (intOf i).toNat)
  case atStart => exact ⟨0, Nat.zero_le _, rfl, by simpa using World.ownsRow_nil _ _ _ _, Fr.refl _⟩
  case round =>
    obtain ⟨k, hk, rfl, hown, hf⟩ := hrel
    by_cases hlt : k < n
    · have hkl : k < l.length := by rw [← Hn.out]; exact hlt
      have hky : k < ys.length := by rw [Hlen.out]; exact hlt
      obtain ⟨g, o, rfl, hg, c0⟩ := (Hv.out.fr hf).at hkl
      have hts := Lib.hid (take_step hky)
      have hyk : ys[k] = tx l[k] := by simp [Hy.out]
      rw [hyk] at hts
      clear hyk
      generalize l[k] = x at *
      go_wp2_with fail
      refine (Str_any x _).mono ?_
      rintro e w1 ⟨rfl, hf1⟩
      have hown0 := own_fr hown hf1
      have hf2 := hf.step hf1
      have hsz := hf2.size
      clear hown hf c0
      unfold sv
      go_wp2_with (at_builtin; refine wpList_append_own _ rfl _ _ 29 rfl w.heap.size 27 i0 (sv 0 0 0 mt) 5 64 Tryz.underlying29 hi hz0 hz1 hz2 rfl (by decide) _ _ _ rfl (hown0.alloc _) ⟨w1.heap.size, 0, none⟩ 1 1 (tx x).cells rfl rfl (cells_new _ (tx x) _) (one_cells (tx x)) (by simp only [maxLen]; omega) (by omega) (by simp; omega) ?_)
      intro v' w2 hown1 hgrow _
      rw [← hts.out] at hown1
      have hf3 : Fr w w2 := (hf2.alloc _).grown hgrow (fun k hk => (hown0.lt k hk).1)
      clear hown0 hgrow hf2
      go_wp2
      go_roundw
      case rel => exact ⟨k + 1, by omega, by simp, hown1, hf3⟩
      case measure => simp [intOf]; omega
    · have hkn : k = n := by omega
      subst hkn
      have hls : (ys.take k).flatMap SVal.cells = ys.flatMap SVal.cells := by rw [← Hlen.out, List.take_length]
      rw [hls] at hown
      obtain ⟨A', cap', hA, hV⟩ := VL.own (l := ys) (by rw [Hlen.out]; exact hown) (by rw [Hlen.out]; exact hl)
      rw [Hlen.out] at hA
      subst hA
      clear hown hls
      have hV' := Lib.hid hV; clear hV
      go_wp2
      go_ret
      exact ⟨A', cap', rfl, by rw [← Hy.out]; exact hV'.out, hf⟩
set_option maxRecDepth 100000 in
set_option maxHeartbeats 2000000 in
theorem CONCATm (hW : WritesBuf) (hS : TellsBuf) (f : Value) (w : World) (p : Nat) (bs : List Nat) (l : List ByteArray) (hL : LS w p bs (l.map txtFa)) (hn : 0 < l.length) (ht : total l ≤ 20000) :
    Calls Tryz.prog 39 #[f, .pointer (some ⟨p, 0, none⟩)] w fun e w' => e = .returned (fa 2 0 (cat l) mt) ∧ Fr w w' := by
  have HL := Lib.hid hL; clear hL
  have HC := Lib.hid (fun w hL => concat_texts hW hS f w p bs l hL hn ht)
  clear hW hS hn ht
  go_enter Tryz.func39, Tryz.ntmps39
  go_wp2_with fail
  refine (HC.out _ (HL.out.fr (by repeat (first | (with_reducible exact Fr.refl _) | ((with_reducible refine Fr.set ?_ ?_ _); focus (simp; done)) | (with_reducible refine Fr.alloc ?_ _) | (with_reducible refine Fr.drew ?_) | (with_reducible refine Fr.step ?_ (by assumption)))))).mono ?_
  rintro e w1 ⟨rfl, hf1⟩
  have hlt1 := hf1.size
  simp at hlt1
  obtain ⟨hc1, hz1⟩ := hf1.cells
  simp at hc1 hz1
  have h01 : w.heap.size < w1.heap.size := by omega
  unfold fa
  go_wp2
  exact bodyPost_ret (v := .agg #[.string mt, .float .f64 0, .string (cat l), .slice none 0 0, .slice none 0 0, .bool false, .string mt, .int .u8 2, .pointer none, .pointer none]) (by simp [results, Tryz.results39, go_sem, sv, mt, *]) rfl ⟨rfl, (by repeat (first | (with_reducible exact Fr.refl _) | ((with_reducible refine Fr.set ?_ ?_ _); focus (simp; done)) | (with_reducible refine Fr.alloc ?_ _) | (with_reducible refine Fr.drew ?_) | (with_reducible refine Fr.step ?_ (by assumption))))⟩
end Go.Proofs.YtcmpfcijockmhaaGreatDoor
