import Derived.Test.YtnpnclhjfemldaaGreatDoorS22
set_option linter.unusedSimpArgs false
set_option linter.unusedVariables false
namespace Go.Proofs.YtnpnclhjfemldaaGreatDoor
open Go.RowKit
open Fl
open Ieee (double)
theorem below_le {B p : Nat} {w w' : World} (h : Below p w w') (hb : B ≤ p) : Below B w w' := ⟨h.os, h.tape, h.output, h.size, fun i hi => h.block i (by omega)⟩
theorem Fr.tail {w w1 w2 : World} {p : Nat} (h : Fr w w1) (h2 : Below p w1 w2) (hp : w.heap.size ≤ p) : Fr w w2 := Below.trans h (below_le h2 hp)
set_option maxRecDepth 100000 in
set_option maxHeartbeats 2000000 in
theorem innerList_any (A : Option Addr) (cap : Nat) (l : List IVal) (fv : IVal → Array Value) (w : World) (hv : IL w A l) (hl9 : l.length ≤ 999999)
    (hia : ∀ x ∈ l, ∀ w, Calls Tryz.prog 42 #[x.v] w fun e w' => e = .returned (.agg (fv x)) ∧ Fr w w') :
    Calls Tryz.prog 23 #[.slice A l.length cap] w fun e w' => ∃ p bs, e = .returned (.pointer (some ⟨p, 0, none⟩)) ∧ LS w' p bs (l.map fun x => .agg (fv x)) ∧ Fr w w' := by
  have Hv := Lib.hid hv; clear hv
  have HF := Lib.hid hia; clear hia
  obtain ⟨n, hn⟩ : ∃ n, n = l.length := ⟨_, rfl⟩
  have Hn := Lib.hid hn
  rw [← hn] at hl9 ⊢
  clear hn
  go_enter Tryz.func23, Tryz.ntmps23
  go_wp2_with fail
  refine (New_any _).mono ?_
  rintro e w1 ⟨p, hp, rfl, hL, hf1⟩
  have HL := Lib.hid hL; clear hL
  have Hf1 := Lib.hid hf1; clear hf1
  go_wp2
  go_loopw [9] (fun i wr => ∃ k : Nat, k ≤ n ∧ i = .int .i64 k ∧ (∃ bs, LS wr p bs ((l.take k).map fun x => .agg (fv x))) ∧ Fr w wr) (fun i _ => n - (intOf i).toNat)
  case atStart => exact ⟨0, Nat.zero_le _, rfl, ⟨_, HL.out⟩, Hf1.out⟩
  case round =>
    obtain ⟨k, hk, rfl, ⟨bs, hL⟩, hf⟩ := hrel
    have HLr := Lib.hid hL; clear hL
    by_cases hlt : k < n
    · have hkl : k < l.length := by rw [← Hn.out]; exact hlt
      have hbl : bs.length = k := by have := HLr.out.len; simpa [Nat.min_eq_left (Nat.le_of_lt hkl)] using this
      have Hbl := Lib.hid hbl; clear hbl
      obtain ⟨g, rfl, hg, c0, c1, c2, c3⟩ := (Hv.out.fr hf).at hkl
      have hH := Lib.hid (HF.out l[k] (List.getElem_mem hkl))
      have hts := Lib.hid (List.take_succ_eq_append_getElem hkl)
      generalize hx : l[k] = y at *
      unfold IVal.v iv at hH
      go_wp2_with fail
      refine (hH.out _).mono ?_
      rintro e w2 ⟨rfl, hf2⟩
      have hf3 : Fr w w2 := (hf.alloc _).step hf2
      have HL2 := Lib.hid ((HLr.out.fr ((Fr.refl _).alloc _)).fr hf2)
      clear hf hf2 c0 c1 c2 c3
      go_wp2_with fail
      refine (PushBack_any _ p bs _ (fv y) HL2.out (by rw [Hbl.out]; omega)).mono ?_
      rintro e w3 ⟨⟨a, rfl⟩, ⟨b, hL3⟩, hb3⟩
      have hf4 := hf3.tail hb3 hp
      have HL3 := Lib.hid hL3; clear hL3 hb3 hf3
      go_wp2
      go_roundw
      case rel => exact ⟨k + 1, by omega, by simp, ⟨_, by rw [hts.out, List.map_append]; exact HL3.out⟩, hf4⟩
      case measure => simp [intOf]; omega
    · have hkn : k = n := by omega
      subst hkn
      have Hls := Lib.hid (show l.take k = l by rw [Hn.out, List.take_length])
      go_wp2
      go_ret
      exact ⟨p, bs, rfl, by have := HLr.out; rwa [Hls.out] at this, hf⟩
end Go.Proofs.YtnpnclhjfemldaaGreatDoor
