import Derived.Test.YtlhonpmpchkkfaaGreatDoorGE
import Derived.Deep.RegionWith
import Derived.LaidEqlPtr
import Derived.Lib.Buffer
import Derived.Lib.BufferKept
set_option linter.unusedSimpArgs false
set_option linter.unusedVariables false
namespace Go.Proofs.YtlhonpmpchkkfaaGreatDoor
open Go.RowKit
open Fl
open Ieee (double)

end Go.Proofs.YtlhonpmpchkkfaaGreatDoor
namespace Go.Proofs.YtlhonpmpchkkfaaGreatDoor
open Go.RowKit
open Fl
open Ieee (double)
set_option maxRecDepth 100000 in
set_option maxHeartbeats 2000000 in
theorem doorFuncs_any (w : World) :
    Calls Tryz.prog 22 #[] w fun e w' => ∃ b, e = .returned (.pointer (some ⟨b, 0, none⟩)) ∧ Fr w w' := by
  go_enter Tryz.func22, Tryz.ntmps22
  go_wp2
  go_ret
  exact ⟨_, rfl, (by repeat (first | (with_reducible exact Fr.refl _) | ((with_reducible refine Fr.set ?_ ?_ _); focus (simp; done)) | (with_reducible refine Fr.alloc ?_ _) | (with_reducible refine Fr.drew ?_) | (with_reducible refine Fr.step ?_ (by assumption))))⟩
end Go.Proofs.YtlhonpmpchkkfaaGreatDoor
namespace Go.Proofs.YtlhonpmpchkkfaaGreatDoor
open Go.RowKit
open Fl
open Ieee (double)
theorem TL.new (w : World) (s : ByteArray) (t : TypeId) (g : Nat) (hg : g = w.heap.size) : TL (w.alloc (.cells #[.string s] t)) (some ⟨g, 0, none⟩) [s] := by
  subst hg
  refine ⟨by simp, fun _ => ⟨_, rfl, by simp, fun i x hx => ?_⟩⟩
  have hi : i = 0 := by have := (List.getElem?_eq_some_iff.1 hx).1; simp at this; exact this
  subst hi
  simp at hx; subst hx
  simp [go_sem]
end Go.Proofs.YtlhonpmpchkkfaaGreatDoor
namespace Go.Proofs.YtlhonpmpchkkfaaGreatDoor
open Go.RowKit
theorem Tryz.infoElem : (Tryz.prog.info? 68).map (·.size) = some 4 := by kernel_rfl
theorem neq_other {w : World} {a b : Addr} {ca cb : Array Value} {ta tb : TypeId} (hne : a ≠ b) (ha : w.heap[a.block]? = some (.cells ca ta (0, 0))) (hb : w.heap[b.block]? = some (.cells cb tb (0, 0))) :
    (binOp .neq 66 (.pointer (some a)) (.pointer (some b))).run Tryz.prog w = .ok (.bool true) w := by
  obtain ⟨j, hj, hs⟩ := Option.map_eq_some_iff.1 Tryz.infoElem
  have hsz : j.size ≠ 0 := by rw [hs]; decide
  have h : ∀ d : Nat, (Op.equalIn (d + 1) 66 (.pointer (some a)) (.pointer (some b))).run Tryz.prog w = .ok false w := fun d => by
    simp [Op.equalIn, run_underlying Tryz.underlying66, sizeOf, typeInfo, hj, hsz, run_sameAddr_other w hne ha hb]
  simp only [binOp]
  simp [Op.equal, Op.maxDepth, h 9999]
theorem neq_same {w : World} {a : Addr} :
    (binOp .neq 66 (.pointer (some a)) (.pointer (some a))).run Tryz.prog w = .ok (.bool false) w := by
  obtain ⟨j, hj, hs⟩ := Option.map_eq_some_iff.1 Tryz.infoElem
  have h : ∀ d : Nat, (Op.equalIn (d + 1) 66 (.pointer (some a)) (.pointer (some a))).run Tryz.prog w = .ok true w := fun d => by
    simp [Op.equalIn, run_underlying Tryz.underlying66, sizeOf, typeInfo, hj, run_sameAddr_same]
  simp only [binOp]
  simp [Op.equal, Op.maxDepth, h 9999]
set_option maxRecDepth 100000 in
set_option maxHeartbeats 1000000 in
theorem Next_more (w : World) (p b q : Nat) (h0 : w.cell? ⟨b, 0, none⟩ = some (.pointer (some ⟨q, 0, none⟩))) (h2 : w.cell? ⟨b, 2, none⟩ = some (.pointer (some ⟨p, 0, none⟩))) (hpq : p < q)
    (hq : ∃ c t, w.heap[q]? = some (.cells c t (0, 0))) (hp : ∃ c t, w.heap[p]? = some (.cells c t (0, 0))) :
    Calls Tryz.prog 42 #[.pointer (some ⟨b, 0, none⟩)] w fun e w' => e = .returned (.pointer (some ⟨q, 0, none⟩)) ∧ w = w' := by
  obtain ⟨cq, tq, hq⟩ := hq
  obtain ⟨cp, tp, hp⟩ := hp
  have hn := neq_other (w := w) (a := ⟨q, 0, none⟩) (b := ⟨p, 0, none⟩) (by intro h; injection h with h; omega) hq hp
  clear hq hp
  go_enter Tryz.func42, Tryz.ntmps42
  go_wp2
  go_ret
  exact ⟨rfl, rfl⟩
set_option maxRecDepth 100000 in
set_option maxHeartbeats 1000000 in
theorem Next_last (w : World) (p b : Nat) (h0 : w.cell? ⟨b, 0, none⟩ = some (.pointer (some ⟨p, 0, none⟩))) (h2 : w.cell? ⟨b, 2, none⟩ = some (.pointer (some ⟨p, 0, none⟩))) :
    Calls Tryz.prog 42 #[.pointer (some ⟨b, 0, none⟩)] w fun e w' => e = .returned (.pointer none) ∧ w = w' := by
  have hn := neq_same (w := w) (a := ⟨p, 0, none⟩)
  go_enter Tryz.func42, Tryz.ntmps42
  go_wp2
  go_ret
  exact ⟨rfl, rfl⟩
end Go.Proofs.YtlhonpmpchkkfaaGreatDoor
namespace Go.Proofs.YtlhonpmpchkkfaaGreatDoor
open Go.RowKit
open Fl
open Ieee (double)

end Go.Proofs.YtlhonpmpchkkfaaGreatDoor
namespace Go.Proofs.YtlhonpmpchkkfaaGreatDoor
open Go.RowKit
open Fl
open Ieee (double)

end Go.Proofs.YtlhonpmpchkkfaaGreatDoor
namespace Go.Proofs.YtlhonpmpchkkfaaGreatDoor
open Go.RowKit
open Fl
open Ieee (double)
/-- Where a walk along a list stands: at element i, or behind the last one. -/
def ptrAt (bs : List Nat) (i : Nat) : Value := match bs[i]? with
  | some b => .pointer (some ⟨b, 0, none⟩)
  | none => .pointer none
theorem Next_any (w : World) (p i : Nat) (bs : List Nat) (vs : List Value) (hL : LS w p bs vs) (hi : i < bs.length) :
    Calls Tryz.prog 42 #[.pointer (some ⟨bs[i], 0, none⟩)] w fun e w' => e = .returned (ptrAt bs (i + 1)) ∧ w = w' := by
  have hv : i < vs.length := by rw [← hL.len]; exact hi
  obtain ⟨h0, h2, _⟩ := hL.el i _ _ (List.getElem?_eq_getElem hi) (List.getElem?_eq_getElem hv)
  by_cases h1 : i + 1 < bs.length
  · rw [List.getD_eq_getElem?_getD, List.getElem?_eq_getElem h1] at h0
    have hp := (hL.hb _ (List.getElem_mem h1)).1
    have he : ptrAt bs (i + 1) = .pointer (some ⟨bs[i + 1], 0, none⟩) := by unfold ptrAt; rw [List.getElem?_eq_getElem h1]
    rw [he]
    exact Next_more w p _ _ h0 h2 hp (hL.rows _ (.inr (List.getElem_mem h1))) (hL.rows _ (.inl rfl))
  · rw [List.getD_eq_getElem?_getD, List.getElem?_eq_none (by omega)] at h0
    have he : ptrAt bs (i + 1) = .pointer none := by unfold ptrAt; rw [List.getElem?_eq_none (by omega)]
    rw [he]
    exact Next_last w p _ h0 h2
end Go.Proofs.YtlhonpmpchkkfaaGreatDoor
namespace Go.Proofs.YtlhonpmpchkkfaaGreatDoor
open Go.RowKit
open Fl
open Ieee (double)

end Go.Proofs.YtlhonpmpchkkfaaGreatDoor
