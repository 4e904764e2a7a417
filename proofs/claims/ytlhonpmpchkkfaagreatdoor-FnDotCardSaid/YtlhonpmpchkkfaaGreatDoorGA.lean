import Derived.Test.YtlhonpmpchkkfaaGreatDoorProg
import Derived.WalkKit
import Derived.WalkSpells
import Derived.WalkLawsBesides
import Derived.Outline
import Derived.Lib.Hide
import Derived.Lib.ConvBytes
import Derived.Laws.BytesArg
import Derived.Deep.QuietTactic
import Derived.BigQuiet
set_option linter.unusedSimpArgs false
set_option linter.unusedVariables false
namespace Go.Proofs.YtlhonpmpchkkfaaGreatDoor
open Go.RowKit

end Go.Proofs.YtlhonpmpchkkfaaGreatDoor
namespace Go.Proofs.YtlhonpmpchkkfaaGreatDoor
open Go.RowKit
/-- A call's frame: nothing that was there has turned. -/
def Fr (w w' : World) : Prop := Below w.heap.size w w'
theorem Fr.refl (w : World) : Fr w w := Below.refl _ _
theorem Fr.alloc {w W : World} (h : Fr w W) (o : Obj) : Fr w (W.alloc o) := Below.alloc h (Below.size h) o
theorem Fr.drew {w W : World} (h : Fr w W) : Fr w W.drew := Below.drew h
theorem Fr.step {w W W' : World} (h : Fr w W) (k : Fr W W') : Fr w W' :=
  Below.trans h ⟨k.os, k.tape, k.output, k.size, fun i hi => k.block i (Nat.lt_of_lt_of_le hi h.size)⟩
theorem Fr.set {w W : World} {p : Addr} (hp : w.heap.size ≤ p.block) (h : Fr w W) (u : Value) : Fr w (W.setCell p u) := Below.setCell h hp u
theorem Fr.grown {w W W' : World} (h : Fr w W) {row : Option Nat} (hg : W.grownBy W' row) (hr : ∀ k, row = some k → w.heap.size ≤ k) : Fr w W' := Below.grown h hg h.size hr
theorem Fr.drewN {w W : World} (h : Fr w W) (n : Nat) : Fr w (W.drewN n) := ⟨h.os, h.tape, h.output, h.size, h.block⟩
theorem Fr.of {w w' : World} (h : Below w.heap.size w w') : Fr w w' := h
/-- What the walk takes as rules behind a call. -/
theorem Fr.cells {W w1 : World} (hb : Fr W w1) : (∀ b o, b < W.heap.size → w1.cell? ⟨b, o, none⟩ = W.cell? ⟨b, o, none⟩) ∧ (∀ b o, b < W.heap.size → w1.frozen? ⟨b, o, none⟩ = W.frozen? ⟨b, o, none⟩) :=
  ⟨fun b o h => hb.cell (p := ⟨b, o, none⟩) h, fun b o h => hb.frozen (p := ⟨b, o, none⟩) h⟩

/-- A value of the reference without rows. -/
def sv (k n d : Int) (s : ByteArray) : Value := .agg #[.int .i64 k, .int .i64 n, .int .i64 d, .string s, .slice none 0 0]
def mt : ByteArray := ⟨#[]⟩
/-- Some value without rows; a number is within the bounds. -/
def SomeV (w : World) (e : Ending) (w' : World) : Prop := ∃ k n d t, e = .returned (sv k n d t) ∧ (k = 1 → -99999999999 ≤ n ∧ n ≤ 99999999999) ∧ Fr w w'
theorem SomeV.mk {w w' : World} {k n d : Int} {t : ByteArray} (hk : k = 1 → -99999999999 ≤ n ∧ n ≤ 99999999999) (hf : Fr w w') : SomeV w (.returned (sv k n d t)) w' := ⟨k, n, d, t, rfl, hk, hf⟩
set_option maxHeartbeats 400000 in
theorem Doubt_any (w : World) :
    Calls Tryz.prog 20 #[] w fun e w' => e = .returned (sv 6 0 0 mt) ∧ Fr w w' := by
  go_enter Tryz.func20, Tryz.ntmps20
  go_wp2
  exact bodyPost_ret (v := sv 6 0 0 mt) (by simp [results, Tryz.results20, go_sem, sv, mt]) rfl ⟨rfl, (Fr.refl _).alloc _⟩
def intV (n : Int) : Value := if n > 99999999999 ∨ n < -99999999999 then sv 6 0 0 mt else sv 1 n 1 mt
set_option maxHeartbeats 400000 in
theorem Int_any (n : Int) (w : World) :
    Calls Tryz.prog 11 #[.int .i64 n] w fun e w' => e = .returned (intV n) ∧ Fr w w' := by
  by_cases h1 : 99999999999 < n
  · have hv := Lib.hid (show intV n = sv 6 0 0 mt by unfold intV; rw [if_pos (.inl h1)])
    go_enter Tryz.func11, Tryz.ntmps11
    go_wp2_with fail
    refine (Doubt_any _).mono ?_
    rintro e w1 ⟨rfl, hf⟩
    obtain ⟨hc, hz⟩ := hf.cells
    unfold sv
    go_wp2
    exact bodyPost_ret (v := sv 6 0 0 mt) (by simp [results, Tryz.results11, go_sem, sv, mt, *]) rfl ⟨by rw [hv.out], (by repeat (first | (with_reducible exact Fr.refl _) | ((with_reducible refine Fr.set ?_ ?_ _); focus (simp; done)) | (with_reducible refine Fr.alloc ?_ _) | (with_reducible refine Fr.drew ?_) | (with_reducible refine Fr.step ?_ (by assumption))))⟩
  · by_cases h2 : n < -99999999999
    · have hv := Lib.hid (show intV n = sv 6 0 0 mt by unfold intV; rw [if_pos (.inr h2)])
      go_enter Tryz.func11, Tryz.ntmps11
      go_wp2_with fail
      refine (Doubt_any _).mono ?_
      rintro e w1 ⟨rfl, hf⟩
      obtain ⟨hc, hz⟩ := hf.cells
      unfold sv
      go_wp2
      exact bodyPost_ret (v := sv 6 0 0 mt) (by simp [results, Tryz.results11, go_sem, sv, mt, *]) rfl ⟨by rw [hv.out], (by repeat (first | (with_reducible exact Fr.refl _) | ((with_reducible refine Fr.set ?_ ?_ _); focus (simp; done)) | (with_reducible refine Fr.alloc ?_ _) | (with_reducible refine Fr.drew ?_) | (with_reducible refine Fr.step ?_ (by assumption))))⟩
    · have hv := Lib.hid (show intV n = sv 1 n 1 mt by unfold intV; rw [if_neg (by omega)])
      go_enter Tryz.func11, Tryz.ntmps11
      go_wp2
      exact bodyPost_ret (v := sv 1 n 1 mt) (by simp [results, Tryz.results11, go_sem, sv, mt, *]) rfl ⟨by rw [hv.out], (by repeat (first | (with_reducible exact Fr.refl _) | ((with_reducible refine Fr.set ?_ ?_ _); focus (simp; done)) | (with_reducible refine Fr.alloc ?_ _) | (with_reducible refine Fr.drew ?_) | (with_reducible refine Fr.step ?_ (by assumption))))⟩
end Go.Proofs.YtlhonpmpchkkfaaGreatDoor
namespace Go.Proofs.YtlhonpmpchkkfaaGreatDoor
open Go.RowKit

end Go.Proofs.YtlhonpmpchkkfaaGreatDoor
namespace Go.Proofs.YtlhonpmpchkkfaaGreatDoor
open Go.RowKit
def words : List (List UInt8) := [[101], [110, 97, 110], [105, 110, 102], [105, 110, 102, 105, 110, 105, 116, 121], [116, 114, 117, 101], [102, 97, 108, 115, 101], [97, 109], [112, 109], [97], [112]]
end Go.Proofs.YtlhonpmpchkkfaaGreatDoor
namespace Go.Proofs.YtlhonpmpchkkfaaGreatDoor
open Go.RowKit

end Go.Proofs.YtlhonpmpchkkfaaGreatDoor
namespace Go.Proofs.YtlhonpmpchkkfaaGreatDoor
open Go.RowKit

end Go.Proofs.YtlhonpmpchkkfaaGreatDoor
namespace Go.Proofs.YtlhonpmpchkkfaaGreatDoor
open Go.RowKit

end Go.Proofs.YtlhonpmpchkkfaaGreatDoor
