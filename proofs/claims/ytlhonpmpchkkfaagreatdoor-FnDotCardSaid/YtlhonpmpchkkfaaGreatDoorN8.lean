import Derived.Test.YtlhonpmpchkkfaaGreatDoorGH
import Derived.Test.YtlhonpmpchkkfaaGreatDoorGE
import Derived.Lib.Builder
set_option linter.unusedSimpArgs false
set_option linter.unusedVariables false
/- A whole number's digits laid out as %f lays them. -/
namespace Go.Proofs.YtlhonpmpchkkfaaGreatDoor
open Go.RowKit
open Fl
open Go.Lib (dg nDigits FmtInv decDigits)
/-- The first z of the digits, with what stood ahead. -/
def digs (pre : List UInt8) (d nd j : Nat) : List UInt8 := pre ++ (List.range j).map fun t => dg d (nd - 1 - t)
theorem digs_step (pre : List UInt8) (d nd j : Nat) : Lib.byteCells (digs pre d nd (j + 1)) = Lib.byteCells (digs pre d nd j) ++ [.int .u8 ((dg d (nd - 1 - j)).toNat : Int)] := by
  unfold digs Lib.byteCells
  simp [List.range_succ]
theorem zeros_step (l : List UInt8) (j : Nat) : Lib.byteCells (l ++ List.replicate (j + 1) 48) = Lib.byteCells (l ++ List.replicate j 48) ++ [.int .u8 48] := by
  unfold Lib.byteCells
  rw [List.replicate_succ', ← List.append_assoc, List.map_append]
  rfl
/-- An owned row does not lie in a block of another type. -/
theorem own_ne {w : World} {B b n : Nat} {e te : TypeId} {v : Value} {xs : List Value} {c : Array Value} {fz : Nat × Nat} (h : w.ownsRow B e 1 v n xs) (hb : w.heap[b]? = some (.cells c te fz)) (hne : e ≠ te) : some b ≠ v.ownBlock := by
  rcases h.2 with ⟨rfl, _⟩ | ⟨g, cap, cur, rfl, _, hg, _⟩
  · simp [Value.ownBlock]
  · intro hh
    simp [Value.ownBlock] at hh
    subst hh
    rw [hb] at hg
    simp at hg
    exact hne hg.2.1.symm
theorem Tryz.infoU8 : (Tryz.prog.info? 5).map (fun i => (i.zero, i.size, i.bytes)) = some (some (.int .u8 0), 1, 1) := by kernel_rfl
theorem byte_new (w : World) (c : Int) (t : TypeId) : ∀ j u, [Value.int .u8 c][j]? = some u → (w.alloc (.cells #[.int .u8 c] t)).cell? ((⟨w.heap.size, 0, none⟩ : Addr).add j) = some u := by
  intro j u h
  have hj : j = 0 := by have := (List.getElem?_eq_some_iff.1 h).1; simp at this; exact this
  subst hj
  simp at h
  subst h
  simp [Addr.add, go_sem]
theorem byte_one (c : Int) : ∀ u ∈ [Value.int .u8 c], u.oneCell' = true := by intro u hu; simp at hu; subst hu; rfl
theorem info_u8 : ∃ i, Tryz.prog.info? 5 = some i ∧ i.zero = some (.int .u8 0) ∧ i.size = 1 ∧ i.bytes = 1 := by
  obtain ⟨i, hi, he⟩ := Option.map_eq_some_iff.1 Tryz.infoU8
  simp only [Prod.mk.injEq] at he
  exact ⟨i, hi, he.1, he.2.1, he.2.2⟩
set_option maxRecDepth 100000 in
set_option maxHeartbeats 4000000 in
theorem fmtEFG_int (B b d nd z K : Nat) (neg : Bool) (dst : Value) (w : World) (c1 : Array Value) (fz : Nat × Nat) (hown : w.ownsRow B 5 1 dst 0 []) (hB : B ≤ w.heap.size)
    (hob : w.heap[b]? = some (.cells c1 158 fz)) (hcell : ∀ j, j < nd → w.cell? ⟨b, j, none⟩ = some (.int .u8 ((dg d (nd - 1 - j)).toNat : Int)))
    (hz : z ≤ K) (hK1 : 1 ≤ K) (hK : K ≤ 6) (hzn : z ≤ nd) (hn : nd ≤ 32) :
    Calls Tryz.prog 91 #[dst, .bool neg, .slice (some ⟨b, 0, none⟩) 32 32, .int .i64 K, .int .i64 z, .int .i64 z, .int .u8 103, .bool true] w fun e w' => ∃ v,
      e = .returned v ∧ w'.ownsRow B 5 1 v ((if neg then 1 else 0) + K) (Lib.byteCells (digs (if neg then [45] else []) d nd z ++ List.replicate (K - z) 48)) ∧ (∀ w0, w0.heap.size ≤ B → Fr w0 w → Fr w0 w') := by
  obtain ⟨i0, hi, hz0, hz1, hz2⟩ := info_u8
  have hbl : b < w.heap.size := (Array.getElem?_eq_some_iff.1 hob).1
  have Hob := Lib.hid hob; clear hob
  have HC := Lib.hid hcell; clear hcell
  have HO := Lib.hid hown; clear hown
  have hmin : min (z : Int) K = z := by omega
  have hmax : max ((z : Int) - K) 0 = 0 := by omega
  cases neg
  · rcases Nat.lt_or_ge z K with hlt | hge
    · skip
      have hzi : ¬ (0 : Int) < (z : Int) - K := by omega
      have hzj : (z : Int) - K < 0 := by omega
      have hzk : ¬ (0 : Int) ≤ (z : Int) - K := by omega
      have hK0 : 0 < K := hK1
      have hK0i : (0 : Int) < (K : Int) := by omega
      have hK0d : decide (0 < K) = true := decide_eq_true hK1
      go_enter Tryz.func91, Tryz.ntmps91
      go_wp2
      go_loopw [0, 191] (fun v i wr => ∃ j : Nat, j ≤ z ∧ i = .int .i64 j ∧ wr.ownsRow B 5 1 v (j) (Lib.byteCells (digs [] d nd j)) ∧ wr.heap[b]? = some (.cells c1 158 fz) ∧ w.heap.size ≤ wr.heap.size ∧ (∀ w0, w0.heap.size ≤ B → Fr w0 w → Fr w0 wr)) (fun _ i _ => z - (intOf i).toNat)
      case atStart => exact ⟨0, Nat.zero_le _, rfl, by simpa [digs, Lib.byteCells] using HO.out, Hob.out, Nat.le_refl _, fun w0 _ h => h⟩
      case round =>
        obtain ⟨j, hj, rfl, hown, hob, hsz, hfr⟩ := hrel
        by_cases hjz : j < z
        · have hc : wr.cell? ⟨b, j, none⟩ = some (.int .u8 ((dg d (nd - 1 - j)).toNat : Int)) := (Lib.cell_of_heap hob j).trans ((Lib.cell_of_heap Hob.out j).symm.trans (HC.out j (by omega)))
          have hst := Lib.hid (digs_step [] d nd j)
          have Hown := Lib.hid hown; clear hown
          have Hob2 := Lib.hid hob; clear hob
          have Hfr := Lib.hid hfr; clear hfr
          generalize ((dg d (nd - 1 - j)).toNat : Int) = q at *
          go_wp2_with (at_builtin; refine wpList_append_own _ rfl _ _ 118 rfl B 5 i0 (.int .u8 0) 1 1 Tryz.underlying118 hi hz0 hz1 hz2 rfl (by decide) _ _ _ rfl (Hown.out.alloc _) ⟨wr.heap.size, 0, none⟩ 1 1 [.int .u8 q] rfl rfl (byte_new _ _ _) (byte_one _) (by simp only [maxLen]; omega) (by omega) (by simp; omega) ?_)
          intro v2 W2 hown2 hgrow2 _
          have hbr : b < wr.heap.size := by omega
          have hne2 := own_ne (Hown.out.alloc (.cells #[.int .u8 q] 5)) (((Fr.refl wr).alloc (.cells #[.int .u8 q] 5)).block b hbr |>.trans Hob2.out) (by decide)
          have hob2 : W2.heap[b]? = some (.cells c1 158 fz) := (hgrow2.block b (by simp; omega) hne2).trans (((Fr.refl wr).alloc (.cells #[.int .u8 q] 5)).block b hbr |>.trans Hob2.out)
          have hsz2 : w.heap.size ≤ W2.heap.size := by have := hgrow2.size; simp at this; omega
          have hfr2 : ∀ w0, w0.heap.size ≤ B → Fr w0 w → Fr w0 W2 := fun w0 h0 h => ((Hfr.out w0 h0 h).alloc _).grown hgrow2 (fun k hk => Nat.le_trans h0 ((Hown.out.alloc (.cells #[.int .u8 q] 5)).lt k hk).1)
          rw [← hst.out] at hown2
          clear hgrow2 hne2 hc
          go_wp2
          go_roundw
          case rel => first | exact ⟨j + 1, by omega, by simp, hown2, hob2, hsz2, hfr2⟩ | (refine ⟨_, _, _, _, _, _, _, _, _, _, _, ⟨j + 1, ?_, ?_, hown2, hob2, hsz2, hfr2⟩, rfl⟩ <;> first | omega | simp)
          case measure => simp [intOf]; omega
        · obtain rfl : j = z := by omega
          have Hown := Lib.hid hown; clear hown
          have Hfr := Lib.hid hfr; clear hfr hob
          go_wp2
          go_loopw [0, 203] (fun v i wq => ∃ m : Nat, m ≤ K - j ∧ i = .int .i64 m ∧ wq.ownsRow B 5 1 v (j + m) (Lib.byteCells (digs [] d nd j ++ List.replicate m 48)) ∧ w.heap.size ≤ wq.heap.size ∧ (∀ w0, w0.heap.size ≤ B → Fr w0 w → Fr w0 wq)) (fun _ i _ => (K - j) - (intOf i).toNat)
          case atStart => exact ⟨0, Nat.zero_le _, rfl, by simpa using Hown.out, hsz, Hfr.out⟩
          case round =>
            obtain ⟨m, hm, rfl, hown, hsz, hfr⟩ := hrel
            by_cases hmz : m < K - j
            · have hmi : (m : Int) < (K : Int) - j := by omega
              have hst := Lib.hid (zeros_step (digs [] d nd j) m)
              have Hown3 := Lib.hid hown; clear hown
              have Hfr3 := Lib.hid hfr; clear hfr
              go_wp2_with (at_builtin; refine wpList_append_own _ rfl _ _ 118 rfl B 5 i0 (.int .u8 0) 1 1 Tryz.underlying118 hi hz0 hz1 hz2 rfl (by decide) _ _ _ rfl (Hown3.out.alloc _) ⟨wr.heap.size, 0, none⟩ 1 1 [.int .u8 48] rfl rfl (byte_new _ _ _) (byte_one _) (by simp only [maxLen]; omega) (by omega) (by simp; omega) ?_)
              intro v2 W2 hown2 hgrow2 _
              have hsz2 : w.heap.size ≤ W2.heap.size := by have := hgrow2.size; simp at this; omega
              have hfr2 : ∀ w0, w0.heap.size ≤ B → Fr w0 w → Fr w0 W2 := fun w0 h0 h => ((Hfr3.out w0 h0 h).alloc _).grown hgrow2 (fun k hk => Nat.le_trans h0 ((Hown3.out.alloc (.cells #[.int .u8 48] 5)).lt k hk).1)
              rw [← hst.out] at hown2
              clear hgrow2
              go_wp2
              go_roundw
              case rel => first | exact ⟨m + 1, by omega, by simp, hown2, hsz2, hfr2⟩ | (refine ⟨_, _, _, _, _, _, _, ⟨m + 1, ?_, ?_, hown2, hsz2, hfr2⟩, rfl⟩ <;> first | omega | simp)
              case measure => simp [intOf]; omega
            · have hmi : ¬ (m : Int) < (K : Int) - j := by omega
              have hme := Lib.hid (show m = K - j by omega)
              clear hmz
              have Hown3 := Lib.hid hown; clear hown
              have Hfr3 := Lib.hid hfr; clear hfr
              go_wp2
              go_ret
              exact ⟨_, rfl, by have := Hown3.out; rw [hme.out, show j + (K - j) = K by omega] at this; first | exact this | (rw [show K - j = 0 by omega] at this; simpa using this), Hfr3.out⟩
    · skip
      have hzi : ¬ (0 : Int) < (z : Int) - K := by omega
      have hzj : (z : Int) - K = 0 := by omega
      have hK0 : 0 < K := hK1
      have hK0i : (0 : Int) < (K : Int) := by omega
      have hK0d : decide (0 < K) = true := decide_eq_true hK1
      go_enter Tryz.func91, Tryz.ntmps91
      go_wp2
      go_loopw [0, 191] (fun v i wr => ∃ j : Nat, j ≤ z ∧ i = .int .i64 j ∧ wr.ownsRow B 5 1 v (j) (Lib.byteCells (digs [] d nd j)) ∧ wr.heap[b]? = some (.cells c1 158 fz) ∧ w.heap.size ≤ wr.heap.size ∧ (∀ w0, w0.heap.size ≤ B → Fr w0 w → Fr w0 wr)) (fun _ i _ => z - (intOf i).toNat)
      case atStart => exact ⟨0, Nat.zero_le _, rfl, by simpa [digs, Lib.byteCells] using HO.out, Hob.out, Nat.le_refl _, fun w0 _ h => h⟩
      case round =>
        obtain ⟨j, hj, rfl, hown, hob, hsz, hfr⟩ := hrel
        by_cases hjz : j < z
        · have hc : wr.cell? ⟨b, j, none⟩ = some (.int .u8 ((dg d (nd - 1 - j)).toNat : Int)) := (Lib.cell_of_heap hob j).trans ((Lib.cell_of_heap Hob.out j).symm.trans (HC.out j (by omega)))
          have hst := Lib.hid (digs_step [] d nd j)
          have Hown := Lib.hid hown; clear hown
          have Hob2 := Lib.hid hob; clear hob
          have Hfr := Lib.hid hfr; clear hfr
          generalize ((dg d (nd - 1 - j)).toNat : Int) = q at *
          go_wp2_with (at_builtin; refine wpList_append_own _ rfl _ _ 118 rfl B 5 i0 (.int .u8 0) 1 1 Tryz.underlying118 hi hz0 hz1 hz2 rfl (by decide) _ _ _ rfl (Hown.out.alloc _) ⟨wr.heap.size, 0, none⟩ 1 1 [.int .u8 q] rfl rfl (byte_new _ _ _) (byte_one _) (by simp only [maxLen]; omega) (by omega) (by simp; omega) ?_)
          intro v2 W2 hown2 hgrow2 _
          have hbr : b < wr.heap.size := by omega
          have hne2 := own_ne (Hown.out.alloc (.cells #[.int .u8 q] 5)) (((Fr.refl wr).alloc (.cells #[.int .u8 q] 5)).block b hbr |>.trans Hob2.out) (by decide)
          have hob2 : W2.heap[b]? = some (.cells c1 158 fz) := (hgrow2.block b (by simp; omega) hne2).trans (((Fr.refl wr).alloc (.cells #[.int .u8 q] 5)).block b hbr |>.trans Hob2.out)
          have hsz2 : w.heap.size ≤ W2.heap.size := by have := hgrow2.size; simp at this; omega
          have hfr2 : ∀ w0, w0.heap.size ≤ B → Fr w0 w → Fr w0 W2 := fun w0 h0 h => ((Hfr.out w0 h0 h).alloc _).grown hgrow2 (fun k hk => Nat.le_trans h0 ((Hown.out.alloc (.cells #[.int .u8 q] 5)).lt k hk).1)
          rw [← hst.out] at hown2
          clear hgrow2 hne2 hc
          go_wp2
          go_roundw
          case rel => first | exact ⟨j + 1, by omega, by simp, hown2, hob2, hsz2, hfr2⟩ | (refine ⟨_, _, _, _, _, _, _, _, _, _, _, ⟨j + 1, ?_, ?_, hown2, hob2, hsz2, hfr2⟩, rfl⟩ <;> first | omega | simp)
          case measure => simp [intOf]; omega
        · obtain rfl : j = z := by omega
          have Hown := Lib.hid hown; clear hown
          have Hfr := Lib.hid hfr; clear hfr hob
          go_wp2
          go_loopw [0, 203] (fun v i wq => ∃ m : Nat, m ≤ K - j ∧ i = .int .i64 m ∧ wq.ownsRow B 5 1 v (j + m) (Lib.byteCells (digs [] d nd j ++ List.replicate m 48)) ∧ w.heap.size ≤ wq.heap.size ∧ (∀ w0, w0.heap.size ≤ B → Fr w0 w → Fr w0 wq)) (fun _ i _ => (K - j) - (intOf i).toNat)
          case atStart => exact ⟨0, Nat.zero_le _, rfl, by simpa using Hown.out, hsz, Hfr.out⟩
          case round =>
            obtain ⟨m, hm, rfl, hown, hsz, hfr⟩ := hrel
            by_cases hmz : m < K - j
            · exact absurd hmz (by omega)
            · have hmi : ¬ (m : Int) < (K : Int) - j := by omega
              have hme := Lib.hid (show m = K - j by omega)
              clear hmz
              have Hown3 := Lib.hid hown; clear hown
              have Hfr3 := Lib.hid hfr; clear hfr
              go_wp2
              go_ret
              exact ⟨_, rfl, by have := Hown3.out; rw [hme.out, show j + (K - j) = K by omega] at this; first | exact this | (rw [show K - j = 0 by omega] at this; simpa using this), Hfr3.out⟩
  · rcases Nat.lt_or_ge z K with hlt | hge
    · skip
      have hzi : ¬ (0 : Int) < (z : Int) - K := by omega
      have hzj : (z : Int) - K < 0 := by omega
      have hzk : ¬ (0 : Int) ≤ (z : Int) - K := by omega
      have hK0 : 0 < K := hK1
      have hK0i : (0 : Int) < (K : Int) := by omega
      have hK0d : decide (0 < K) = true := decide_eq_true hK1
      go_enter Tryz.func91, Tryz.ntmps91
      go_wp2_with (at_builtin; refine wpList_append_own _ rfl _ _ 118 rfl B 5 i0 (.int .u8 0) 1 1 Tryz.underlying118 hi hz0 hz1 hz2 rfl (by decide) _ _ _ rfl (HO.out.alloc _) ⟨w.heap.size, 0, none⟩ 1 1 [.int .u8 45] rfl rfl (byte_new _ _ _) (byte_one _) (by simp only [maxLen]; omega) (by omega) (by simp; omega) ?_)
      intro v1 W1 hown1 hgrow1 _
      have hne1 := own_ne (HO.out.alloc (.cells #[.int .u8 45] 5)) (((Fr.refl w).alloc (.cells #[.int .u8 45] 5)).block b hbl |>.trans Hob.out) (by decide)
      have hob1 : W1.heap[b]? = some (.cells c1 158 fz) := (hgrow1.block b (by simp; omega) hne1).trans (((Fr.refl w).alloc (.cells #[.int .u8 45] 5)).block b hbl |>.trans Hob.out)
      have hsz1 : w.heap.size ≤ W1.heap.size := by have := hgrow1.size; simp at this; omega
      have hfr1 : ∀ w0, w0.heap.size ≤ B → Fr w0 w → Fr w0 W1 := fun w0 h0 h => (h.alloc _).grown hgrow1 (fun k hk => Nat.le_trans h0 ((HO.out.alloc (.cells #[.int .u8 45] 5)).lt k hk).1)
      have hown1' : W1.ownsRow B 5 1 v1 (1 + 0) (Lib.byteCells (digs [45] d nd 0)) := hown1
      clear hown1 hgrow1 hne1
      go_wp2
      go_loopw [0, 191] (fun v i wr => ∃ j : Nat, j ≤ z ∧ i = .int .i64 j ∧ wr.ownsRow B 5 1 v (1 + j) (Lib.byteCells (digs [45] d nd j)) ∧ wr.heap[b]? = some (.cells c1 158 fz) ∧ w.heap.size ≤ wr.heap.size ∧ (∀ w0, w0.heap.size ≤ B → Fr w0 w → Fr w0 wr)) (fun _ i _ => z - (intOf i).toNat)
      case atStart => exact ⟨0, Nat.zero_le _, rfl, hown1', hob1, hsz1, hfr1⟩
      case round =>
        obtain ⟨j, hj, rfl, hown, hob, hsz, hfr⟩ := hrel
        by_cases hjz : j < z
        · have hc : wr.cell? ⟨b, j, none⟩ = some (.int .u8 ((dg d (nd - 1 - j)).toNat : Int)) := (Lib.cell_of_heap hob j).trans ((Lib.cell_of_heap Hob.out j).symm.trans (HC.out j (by omega)))
          have hst := Lib.hid (digs_step [45] d nd j)
          have Hown := Lib.hid hown; clear hown
          have Hob2 := Lib.hid hob; clear hob
          have Hfr := Lib.hid hfr; clear hfr
          generalize ((dg d (nd - 1 - j)).toNat : Int) = q at *
          go_wp2_with (at_builtin; refine wpList_append_own _ rfl _ _ 118 rfl B 5 i0 (.int .u8 0) 1 1 Tryz.underlying118 hi hz0 hz1 hz2 rfl (by decide) _ _ _ rfl (Hown.out.alloc _) ⟨wr.heap.size, 0, none⟩ 1 1 [.int .u8 q] rfl rfl (byte_new _ _ _) (byte_one _) (by simp only [maxLen]; omega) (by omega) (by simp; omega) ?_)
          intro v2 W2 hown2 hgrow2 _
          have hbr : b < wr.heap.size := by omega
          have hne2 := own_ne (Hown.out.alloc (.cells #[.int .u8 q] 5)) (((Fr.refl wr).alloc (.cells #[.int .u8 q] 5)).block b hbr |>.trans Hob2.out) (by decide)
          have hob2 : W2.heap[b]? = some (.cells c1 158 fz) := (hgrow2.block b (by simp; omega) hne2).trans (((Fr.refl wr).alloc (.cells #[.int .u8 q] 5)).block b hbr |>.trans Hob2.out)
          have hsz2 : w.heap.size ≤ W2.heap.size := by have := hgrow2.size; simp at this; omega
          have hfr2 : ∀ w0, w0.heap.size ≤ B → Fr w0 w → Fr w0 W2 := fun w0 h0 h => ((Hfr.out w0 h0 h).alloc _).grown hgrow2 (fun k hk => Nat.le_trans h0 ((Hown.out.alloc (.cells #[.int .u8 q] 5)).lt k hk).1)
          rw [← hst.out] at hown2
          clear hgrow2 hne2 hc
          go_wp2
          go_roundw
          case rel => first | exact ⟨j + 1, by omega, by simp, hown2, hob2, hsz2, hfr2⟩ | (refine ⟨_, _, _, _, _, _, _, _, _, _, _, ⟨j + 1, ?_, ?_, hown2, hob2, hsz2, hfr2⟩, rfl⟩ <;> first | omega | simp)
          case measure => simp [intOf]; omega
        · obtain rfl : j = z := by omega
          have Hown := Lib.hid hown; clear hown
          have Hfr := Lib.hid hfr; clear hfr hob
          go_wp2
          go_loopw [0, 203] (fun v i wq => ∃ m : Nat, m ≤ K - j ∧ i = .int .i64 m ∧ wq.ownsRow B 5 1 v (1 + j + m) (Lib.byteCells (digs [45] d nd j ++ List.replicate m 48)) ∧ w.heap.size ≤ wq.heap.size ∧ (∀ w0, w0.heap.size ≤ B → Fr w0 w → Fr w0 wq)) (fun _ i _ => (K - j) - (intOf i).toNat)
          case atStart => exact ⟨0, Nat.zero_le _, rfl, by simpa using Hown.out, hsz, Hfr.out⟩
          case round =>
            obtain ⟨m, hm, rfl, hown, hsz, hfr⟩ := hrel
            by_cases hmz : m < K - j
            · have hmi : (m : Int) < (K : Int) - j := by omega
              have hst := Lib.hid (zeros_step (digs [45] d nd j) m)
              have Hown3 := Lib.hid hown; clear hown
              have Hfr3 := Lib.hid hfr; clear hfr
              go_wp2_with (at_builtin; refine wpList_append_own _ rfl _ _ 118 rfl B 5 i0 (.int .u8 0) 1 1 Tryz.underlying118 hi hz0 hz1 hz2 rfl (by decide) _ _ _ rfl (Hown3.out.alloc _) ⟨wr.heap.size, 0, none⟩ 1 1 [.int .u8 48] rfl rfl (byte_new _ _ _) (byte_one _) (by simp only [maxLen]; omega) (by omega) (by simp; omega) ?_)
              intro v2 W2 hown2 hgrow2 _
              have hsz2 : w.heap.size ≤ W2.heap.size := by have := hgrow2.size; simp at this; omega
              have hfr2 : ∀ w0, w0.heap.size ≤ B → Fr w0 w → Fr w0 W2 := fun w0 h0 h => ((Hfr3.out w0 h0 h).alloc _).grown hgrow2 (fun k hk => Nat.le_trans h0 ((Hown3.out.alloc (.cells #[.int .u8 48] 5)).lt k hk).1)
              rw [← hst.out] at hown2
              clear hgrow2
              go_wp2
              go_roundw
              case rel => first | exact ⟨m + 1, by omega, by simp, hown2, hsz2, hfr2⟩ | (refine ⟨_, _, _, _, _, _, _, ⟨m + 1, ?_, ?_, hown2, hsz2, hfr2⟩, rfl⟩ <;> first | omega | simp)
              case measure => simp [intOf]; omega
            · have hmi : ¬ (m : Int) < (K : Int) - j := by omega
              have hme := Lib.hid (show m = K - j by omega)
              clear hmz
              have Hown3 := Lib.hid hown; clear hown
              have Hfr3 := Lib.hid hfr; clear hfr
              go_wp2
              go_ret
              exact ⟨_, rfl, by have := Hown3.out; rw [hme.out, show 1 + j + (K - j) = 1 + K by omega] at this; first | exact this | (rw [show K - j = 0 by omega] at this; simpa using this), Hfr3.out⟩
    · skip
      have hzi : ¬ (0 : Int) < (z : Int) - K := by omega
      have hzj : (z : Int) - K = 0 := by omega
      have hK0 : 0 < K := hK1
      have hK0i : (0 : Int) < (K : Int) := by omega
      have hK0d : decide (0 < K) = true := decide_eq_true hK1
      go_enter Tryz.func91, Tryz.ntmps91
      go_wp2_with (at_builtin; refine wpList_append_own _ rfl _ _ 118 rfl B 5 i0 (.int .u8 0) 1 1 Tryz.underlying118 hi hz0 hz1 hz2 rfl (by decide) _ _ _ rfl (HO.out.alloc _) ⟨w.heap.size, 0, none⟩ 1 1 [.int .u8 45] rfl rfl (byte_new _ _ _) (byte_one _) (by simp only [maxLen]; omega) (by omega) (by simp; omega) ?_)
      intro v1 W1 hown1 hgrow1 _
      have hne1 := own_ne (HO.out.alloc (.cells #[.int .u8 45] 5)) (((Fr.refl w).alloc (.cells #[.int .u8 45] 5)).block b hbl |>.trans Hob.out) (by decide)
      have hob1 : W1.heap[b]? = some (.cells c1 158 fz) := (hgrow1.block b (by simp; omega) hne1).trans (((Fr.refl w).alloc (.cells #[.int .u8 45] 5)).block b hbl |>.trans Hob.out)
      have hsz1 : w.heap.size ≤ W1.heap.size := by have := hgrow1.size; simp at this; omega
      have hfr1 : ∀ w0, w0.heap.size ≤ B → Fr w0 w → Fr w0 W1 := fun w0 h0 h => (h.alloc _).grown hgrow1 (fun k hk => Nat.le_trans h0 ((HO.out.alloc (.cells #[.int .u8 45] 5)).lt k hk).1)
      have hown1' : W1.ownsRow B 5 1 v1 (1 + 0) (Lib.byteCells (digs [45] d nd 0)) := hown1
      clear hown1 hgrow1 hne1
      go_wp2
      go_loopw [0, 191] (fun v i wr => ∃ j : Nat, j ≤ z ∧ i = .int .i64 j ∧ wr.ownsRow B 5 1 v (1 + j) (Lib.byteCells (digs [45] d nd j)) ∧ wr.heap[b]? = some (.cells c1 158 fz) ∧ w.heap.size ≤ wr.heap.size ∧ (∀ w0, w0.heap.size ≤ B → Fr w0 w → Fr w0 wr)) (fun _ i _ => z - (intOf i).toNat)
      case atStart => exact ⟨0, Nat.zero_le _, rfl, hown1', hob1, hsz1, hfr1⟩
      case round =>
        obtain ⟨j, hj, rfl, hown, hob, hsz, hfr⟩ := hrel
        by_cases hjz : j < z
        · have hc : wr.cell? ⟨b, j, none⟩ = some (.int .u8 ((dg d (nd - 1 - j)).toNat : Int)) := (Lib.cell_of_heap hob j).trans ((Lib.cell_of_heap Hob.out j).symm.trans (HC.out j (by omega)))
          have hst := Lib.hid (digs_step [45] d nd j)
          have Hown := Lib.hid hown; clear hown
          have Hob2 := Lib.hid hob; clear hob
          have Hfr := Lib.hid hfr; clear hfr
          generalize ((dg d (nd - 1 - j)).toNat : Int) = q at *
          go_wp2_with (at_builtin; refine wpList_append_own _ rfl _ _ 118 rfl B 5 i0 (.int .u8 0) 1 1 Tryz.underlying118 hi hz0 hz1 hz2 rfl (by decide) _ _ _ rfl (Hown.out.alloc _) ⟨wr.heap.size, 0, none⟩ 1 1 [.int .u8 q] rfl rfl (byte_new _ _ _) (byte_one _) (by simp only [maxLen]; omega) (by omega) (by simp; omega) ?_)
          intro v2 W2 hown2 hgrow2 _
          have hbr : b < wr.heap.size := by omega
          have hne2 := own_ne (Hown.out.alloc (.cells #[.int .u8 q] 5)) (((Fr.refl wr).alloc (.cells #[.int .u8 q] 5)).block b hbr |>.trans Hob2.out) (by decide)
          have hob2 : W2.heap[b]? = some (.cells c1 158 fz) := (hgrow2.block b (by simp; omega) hne2).trans (((Fr.refl wr).alloc (.cells #[.int .u8 q] 5)).block b hbr |>.trans Hob2.out)
          have hsz2 : w.heap.size ≤ W2.heap.size := by have := hgrow2.size; simp at this; omega
          have hfr2 : ∀ w0, w0.heap.size ≤ B → Fr w0 w → Fr w0 W2 := fun w0 h0 h => ((Hfr.out w0 h0 h).alloc _).grown hgrow2 (fun k hk => Nat.le_trans h0 ((Hown.out.alloc (.cells #[.int .u8 q] 5)).lt k hk).1)
          rw [← hst.out] at hown2
          clear hgrow2 hne2 hc
          go_wp2
          go_roundw
          case rel => first | exact ⟨j + 1, by omega, by simp, hown2, hob2, hsz2, hfr2⟩ | (refine ⟨_, _, _, _, _, _, _, _, _, _, _, ⟨j + 1, ?_, ?_, hown2, hob2, hsz2, hfr2⟩, rfl⟩ <;> first | omega | simp)
          case measure => simp [intOf]; omega
        · obtain rfl : j = z := by omega
          have Hown := Lib.hid hown; clear hown
          have Hfr := Lib.hid hfr; clear hfr hob
          go_wp2
          go_loopw [0, 203] (fun v i wq => ∃ m : Nat, m ≤ K - j ∧ i = .int .i64 m ∧ wq.ownsRow B 5 1 v (1 + j + m) (Lib.byteCells (digs [45] d nd j ++ List.replicate m 48)) ∧ w.heap.size ≤ wq.heap.size ∧ (∀ w0, w0.heap.size ≤ B → Fr w0 w → Fr w0 wq)) (fun _ i _ => (K - j) - (intOf i).toNat)
          case atStart => exact ⟨0, Nat.zero_le _, rfl, by simpa using Hown.out, hsz, Hfr.out⟩
          case round =>
            obtain ⟨m, hm, rfl, hown, hsz, hfr⟩ := hrel
            by_cases hmz : m < K - j
            · exact absurd hmz (by omega)
            · have hmi : ¬ (m : Int) < (K : Int) - j := by omega
              have hme := Lib.hid (show m = K - j by omega)
              clear hmz
              have Hown3 := Lib.hid hown; clear hown
              have Hfr3 := Lib.hid hfr; clear hfr
              go_wp2
              go_ret
              exact ⟨_, rfl, by have := Hown3.out; rw [hme.out, show 1 + j + (K - j) = 1 + K by omega] at this; first | exact this | (rw [show K - j = 0 by omega] at this; simpa using this), Hfr3.out⟩
end Go.Proofs.YtlhonpmpchkkfaaGreatDoor
