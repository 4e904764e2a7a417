import Derived.Test.YtcmpfcijockmhaaGreatDoorS22
import Derived.LaidEqlPtr
set_option linter.unusedSimpArgs false
set_option linter.unusedVariables false
namespace Go.Proofs.YtcmpfcijockmhaaGreatDoor
open Go.RowKit
theorem Tryz.infoElem : (Tryz.prog.info? 87).map (·.size) = some 4 := by kernel_rfl
theorem neq_other {w : World} {a b : Addr} {ca cb : Array Value} {ta tb : TypeId} (hne : a ≠ b) (ha : w.heap[a.block]? = some (.cells ca ta (0, 0))) (hb : w.heap[b.block]? = some (.cells cb tb (0, 0))) :
    (binOp .neq 79 (.pointer (some a)) (.pointer (some b))).run Tryz.prog w = .ok (.bool true) w := by
  obtain ⟨j, hj, hs⟩ := Option.map_eq_some_iff.1 Tryz.infoElem
  have hsz : j.size ≠ 0 := by rw [hs]; decide
  have h : ∀ d : Nat, (Op.equalIn (d + 1) 79 (.pointer (some a)) (.pointer (some b))).run Tryz.prog w = .ok false w := fun d => by
    simp [Op.equalIn, run_underlying Tryz.underlying79, sizeOf, typeInfo, hj, hsz, run_sameAddr_other w hne ha hb]
  simp only [binOp]
  simp [Op.equal, Op.maxDepth, h 9999]
theorem neq_same {w : World} {a : Addr} :
    (binOp .neq 79 (.pointer (some a)) (.pointer (some a))).run Tryz.prog w = .ok (.bool false) w := by
  obtain ⟨j, hj, hs⟩ := Option.map_eq_some_iff.1 Tryz.infoElem
  have h : ∀ d : Nat, (Op.equalIn (d + 1) 79 (.pointer (some a)) (.pointer (some a))).run Tryz.prog w = .ok true w := fun d => by
    simp [Op.equalIn, run_underlying Tryz.underlying79, sizeOf, typeInfo, hj, run_sameAddr_same]
  simp only [binOp]
  simp [Op.equal, Op.maxDepth, h 9999]
set_option maxRecDepth 100000 in
set_option maxHeartbeats 1000000 in
theorem Next_more (w : World) (p b q : Nat) (h0 : w.cell? ⟨b, 0, none⟩ = some (.pointer (some ⟨q, 0, none⟩))) (h2 : w.cell? ⟨b, 2, none⟩ = some (.pointer (some ⟨p, 0, none⟩))) (hpq : p < q)
    (hq : ∃ c t, w.heap[q]? = some (.cells c t (0, 0))) (hp : ∃ c t, w.heap[p]? = some (.cells c t (0, 0))) :
    Calls Tryz.prog 61 #[.pointer (some ⟨b, 0, none⟩)] w fun e w' => e = .returned (.pointer (some ⟨q, 0, none⟩)) ∧ w = w' := by
  obtain ⟨cq, tq, hq⟩ := hq
  obtain ⟨cp, tp, hp⟩ := hp
  have hn := neq_other (w := w) (a := ⟨q, 0, none⟩) (b := ⟨p, 0, none⟩) (by intro h; injection h with h; omega) hq hp
  clear hq hp
  go_enter Tryz.func61, Tryz.ntmps61
  go_wp2
  go_ret
  exact ⟨rfl, rfl⟩
set_option maxRecDepth 100000 in
set_option maxHeartbeats 1000000 in
theorem Next_last (w : World) (p b : Nat) (h0 : w.cell? ⟨b, 0, none⟩ = some (.pointer (some ⟨p, 0, none⟩))) (h2 : w.cell? ⟨b, 2, none⟩ = some (.pointer (some ⟨p, 0, none⟩))) :
    Calls Tryz.prog 61 #[.pointer (some ⟨b, 0, none⟩)] w fun e w' => e = .returned (.pointer none) ∧ w = w' := by
  have hn := neq_same (w := w) (a := ⟨p, 0, none⟩)
  go_enter Tryz.func61, Tryz.ntmps61
  go_wp2
  go_ret
  exact ⟨rfl, rfl⟩
end Go.Proofs.YtcmpfcijockmhaaGreatDoor
