import Derived.Test.YtlhonpmpchkkfaaGreatDoorGA
import Derived.Test.YtlhonpmpchkkfaaGreatDoorGG
import Derived.Deep.RegionWith
import Derived.Laws.BitsAllLaws
import Derived.Lib.ItoaNum
import Derived.Lib.ItoaWalk
import Derived.Lib.LaidTab
import Derived.Sort.Row
set_option linter.unusedSimpArgs false
set_option linter.unusedVariables false
/- The small functions below the printing of floats. -/
namespace Go.Proofs.YtlhonpmpchkkfaaGreatDoor
open Go.RowKit
open Fl
set_option maxRecDepth 100000 in
set_option maxHeartbeats 1000000 in
theorem log10Pow2_any (x : Int) (w : World) (h0 : -2000 ≤ x) (h1 : x ≤ 2000) :
    Calls Tryz.prog 96 #[.int .i64 x] w fun e w' => e = .returned (.int .i64 (x * 78913 / 262144)) ∧ w = w' := by
  go_enter Tryz.func96, Tryz.ntmps96
  go_wp2
  go_ret
  refine ⟨?_, rfl⟩
  (congr 2) <;> omega
set_option maxRecDepth 100000 in
set_option maxHeartbeats 1000000 in
theorem skewed_any (x : Int) (w : World) (h0 : -2000 ≤ x) (h1 : x ≤ 2000) :
    Calls Tryz.prog 119 #[.int .i64 x] w fun e w' => e = .returned (.int .i64 ((x * 631305 - 261663) / 2097152)) ∧ w = w' := by
  go_enter Tryz.func119, Tryz.ntmps119
  go_wp2
  go_ret
  refine ⟨?_, rfl⟩
  (congr 2) <;> omega
set_option maxRecDepth 100000 in
set_option maxHeartbeats 1000000 in
theorem log2Pow10_any (x : Int) (w : World) (h0 : -2000 ≤ x) (h1 : x ≤ 2000) :
    Calls Tryz.prog 107 #[.int .i64 x] w fun e w' => e = .returned (.int .i64 (x * 108853 / 32768)) ∧ w = w' := by
  go_enter Tryz.func107, Tryz.ntmps107
  go_wp2
  go_ret
  refine ⟨?_, rfl⟩
  (congr 2) <;> omega
set_option maxRecDepth 100000 in
set_option maxHeartbeats 1000000 in
theorem nudge_up (u odd : Nat) (w : World) (h : u + odd < 18446744073709551616) (ho : odd ≤ 1) :
    Calls Tryz.prog 120 #[.int .u64 u, .int .i64 odd] w fun e w' => e = .returned (.int .u64 ((u + odd : Nat) : Int)) ∧ w = w' := by
  go_enter Tryz.func120, Tryz.ntmps120
  go_wp2
  go_ret
  refine ⟨?_, rfl⟩
  (congr 2) <;> omega
set_option maxRecDepth 100000 in
set_option maxHeartbeats 1000000 in
theorem nudge_down (u odd : Nat) (w : World) (h : u < 18446744073709551616) (ho : odd ≤ 1) (hu : odd ≤ u) :
    Calls Tryz.prog 120 #[.int .u64 u, .int .i64 (-(odd : Int))] w fun e w' => e = .returned (.int .u64 ((u - odd : Nat) : Int)) ∧ w = w' := by
  go_enter Tryz.func120, Tryz.ntmps120
  go_wp2
  go_ret
  refine ⟨?_, rfl⟩
  simp only [IntKind.wrap_u64]
  refine congrArg (fun z : Int => Ending.returned (.int .u64 z)) ?_
  omega
set_option maxRecDepth 100000 in
set_option maxHeartbeats 1000000 in
theorem ceil_any (u : Nat) (w : World) (h : u + 3 < 18446744073709551616) :
    Calls Tryz.prog 121 #[.int .u64 u] w fun e w' => e = .returned (.int .u64 (((u + 3) / 4 : Nat) : Int)) ∧ w = w' := by
  go_enter Tryz.func121, Tryz.ntmps121
  go_wp2
  go_ret
  refine ⟨?_, rfl⟩
  (congr 2) <;> omega
set_option maxRecDepth 100000 in
set_option maxHeartbeats 1000000 in
theorem floor_any (u : Nat) (w : World) (h : u < 18446744073709551616) :
    Calls Tryz.prog 122 #[.int .u64 u] w fun e w' => e = .returned (.int .u64 ((u / 4 : Nat) : Int)) ∧ w = w' := by
  go_enter Tryz.func122, Tryz.ntmps122
  go_wp2
  go_ret
  refine ⟨?_, rfl⟩
  (congr 2) <;> omega
set_option maxRecDepth 100000 in
set_option maxHeartbeats 1000000 in
theorem bool2_u64 (b : Bool) (w : World) :
    Calls Tryz.prog 82 #[.bool b] w fun e w' => e = .returned (.int .u64 (if b then 1 else 0)) ∧ w = w' := by
  cases b
  · go_enter Tryz.func82, Tryz.ntmps82
    go_wp2
    go_ret
    exact ⟨rfl, rfl⟩
  · go_enter Tryz.func82, Tryz.ntmps82
    go_wp2
    go_ret
    exact ⟨rfl, rfl⟩
/-- What the shelf says of the library's arithmetic. -/
def MulC : Prop := ∀ (x y : Nat), x < 18446744073709551616 → y < 18446744073709551616 → ∀ w : World,
  Calls Tryz.prog 131 #[.int .u64 x, .int .u64 y] w fun e w' => e = .returned (.tuple #[.int .u64 ((x * y / 18446744073709551616 : Nat) : Int), .int .u64 ((x * y % 18446744073709551616 : Nat) : Int)]) ∧ w' = w
end Go.Proofs.YtlhonpmpchkkfaaGreatDoor
/- Unrounded scaling by a power of ten whose table's low word is 0. -/
namespace Go.Proofs.YtlhonpmpchkkfaaGreatDoor
open Go.RowKit
open Fl
theorem and63 : ∀ s : Fin 64, bits .and .i64 (s.val : Int) 63 = (s.val : Int) := by decide +kernel
theorem wrap_id (a : Nat) (h : a < 18446744073709551616) : IntKind.u64.wrap (a : Int) = (a : Int) := by rw [IntKind.wrap_u64]; omega
theorem shl_back (Q s : Nat) (h : Q < 18446744073709551616) : IntKind.u64.wrap ((Q : Int) / 2 ^ s * 2 ^ s) = ((Q / 2 ^ s * 2 ^ s : Nat) : Int) := by
  have e : ((Q : Int) / 2 ^ s * 2 ^ s) = ((Q / 2 ^ s * 2 ^ s : Nat) : Int) := by push_cast; rfl
  rw [e]
  exact wrap_id _ (Nat.lt_of_le_of_lt (Nat.div_mul_le_self Q (2 ^ s)) h)
theorem or_word (q m : Nat) (hq : q < 18446744073709551616) (hm : m < 18446744073709551616) : bits .or .u64 (q : Int) (m : Int) = ((q ||| m : Nat) : Int) := u64_or_nat q m hq hm
set_option maxRecDepth 100000 in
set_option maxHeartbeats 2000000 in
theorem uscale_any (hM : MulC) (x hi s b : Nat) (w : World) (hx : x < 18446744073709551616) (hh : hi < 18446744073709551616) (hs : s < 64)
    (c0 : w.cell? ⟨b, 0, none⟩ = some (.int .u64 hi)) (c1 : w.cell? ⟨b, 1, none⟩ = some (.int .u64 0)) (c2 : w.cell? ⟨b, 2, none⟩ = some (.int .i64 s)) :
    Calls Tryz.prog 109 #[.int .u64 x, .pointer (some ⟨b, 0, none⟩)] w fun e w' => e = .returned (.int .u64 ((usc x hi s : Nat) : Int)) ∧ Fr w w' := by
  have hlt : x * hi < 18446744073709551616 * 18446744073709551616 := Nat.mul_lt_mul'' hx hh
  have h1 := fun w => hM x hi hx hh w
  have h2 := fun w => hM x 0 hx (by decide) w
  simp only [Nat.mul_zero, Nat.zero_div, Nat.zero_mod] at h2
  have hu : usc x hi s = if x * hi / 18446744073709551616 / 2 ^ s * 2 ^ s = x * hi / 18446744073709551616 then (x * hi / 18446744073709551616 / 2 ^ s) ||| (if 1 < x * hi % 18446744073709551616 then 1 else 0) else (x * hi / 18446744073709551616 / 2 ^ s) ||| 1 := rfl
  rw [hu]
  have hQ : x * hi / 18446744073709551616 < 18446744073709551616 := Nat.div_lt_of_lt_mul hlt
  have hMl : x * hi % 18446744073709551616 < 18446744073709551616 := Nat.mod_lt _ (by decide)
  generalize x * hi / 18446744073709551616 = Q at *
  generalize x * hi % 18446744073709551616 = M at *
  clear hu hlt hM
  have H1 := Lib.hid h1; clear h1
  have H2 := Lib.hid h2; clear h2
  have hq : Q / 2 ^ s < 18446744073709551616 := Nat.lt_of_le_of_lt (Nat.div_le_self _ _) hQ
  have hw := shl_back Q s hQ
  have ha : bits .and .i64 (s : Int) 63 = (s : Int) := and63 ⟨s, hs⟩
  have Hd := Lib.hid (show (Q : Int) / 2 ^ s = ((Q / 2 ^ s : Nat) : Int) by push_cast; rfl)
  by_cases e : Q / 2 ^ s * 2 ^ s = Q
  · rw [if_pos e]
    have hne : (IntKind.u64.wrap ((Q : Int) / 2 ^ s * 2 ^ s) != (Q : Int)) = false := by rw [hw, e]; simp
    have hz : IntKind.u64.wrap (Q : Int) = Q := wrap_id Q hQ
    have hm0 : IntKind.u64.wrap (M : Int) = M := wrap_id M hMl
    have hlt0 : ¬ (M : Int) < 0 := by omega
    clear hw
    by_cases h1M : 1 < M
    · have h1M' : (1 : Int) < M := by omega
      have hor : bits .or .u64 ((Q : Int) / 2 ^ s) 1 = ((Q / 2 ^ s ||| 1 : Nat) : Int) := by rw [Hd.out]; exact or_word (Q / 2 ^ s) 1 hq (by decide)
      rw [if_pos h1M]
      clear e hq
      go_enter Tryz.func109, Tryz.ntmps109
      go_wp2_with fail
      refine (H1.out _).mono ?_
      rintro e w1 ⟨rfl, rfl⟩
      go_wp2_with fail
      refine (H2.out _).mono ?_
      rintro e w1 ⟨rfl, rfl⟩
      go_wp2_with fail
      refine (bool2_u64 false _).mono ?_
      rintro e w1 ⟨rfl, rfl⟩
      go_wp2_with fail
      refine wp_region_any (by kernel_rfl) ?_
      change wpAny _ _ _ _ _ _ _ (World.drew _)
      refine wpAny_take (i := 0) (v := .int .u64 Q) rfl (by kernel_rfl) (by kernel_rfl) (by kernel_rfl) (fun _ _ _ h => h) (Or.inl ⟨by rfl, fun W => by go_simp⟩) ?_
      refine wpAny_take (i := 1) (v := .int .i64 s) rfl (by kernel_rfl) (by kernel_rfl) (by kernel_rfl) (fun _ _ _ h => h) (Or.inl ⟨by rfl, fun W => by go_simp⟩) ?_
      refine wpAny_take (i := 2) (v := .int .u64 ((Q : Int) / 2 ^ s)) rfl (by kernel_rfl) (by kernel_rfl) (by kernel_rfl) (fun _ _ _ h => h) (Or.inl ⟨by rfl, fun W => by go_simp⟩) ?_
      refine wpAny_take (i := 3) (v := .int .u64 M) rfl (by kernel_rfl) (by kernel_rfl) (by kernel_rfl) (fun _ _ _ h => h) (Or.inl ⟨by rfl, fun W => by go_simp⟩) ?_
      refine wpAny_take (i := 4) (v := .int .u64 0) rfl (by kernel_rfl) (by kernel_rfl) (by kernel_rfl) (fun _ _ _ h => h) (Or.inl ⟨by rfl, fun W => by go_simp⟩) ?_
      refine wpAny_ready (rs := [5]) (by kernel_rfl) (by simp) ?_; refine AllReady.cons rfl (fun K hK => ?_) AllReady.nil; go_simp; refine hK _ _ ?_; clear hK K
      refine wpAny_ready (rs := [6]) (by kernel_rfl) (by simp) ?_; refine AllReady.cons rfl (fun K hK => ?_) AllReady.nil; go_simp; refine hK _ _ ?_; clear hK K
      refine wpAny_ready (rs := [7]) (by kernel_rfl) (by simp) ?_; refine AllReady.cons rfl (fun K hK => ?_) AllReady.nil; go_simp
      go_wp2_with (go_at_call 82; refine (bool2_u64 true _).mono ?_; rintro e w1 ⟨rfl, rfl⟩)
      refine wpAny_ready (rs := [8]) (by kernel_rfl) (by simp) ?_; refine AllReady.cons rfl (fun K hK => ?_) AllReady.nil; go_simp; refine hK _ _ ?_; clear hK K
      refine wpAny_ready (rs := [9]) (by kernel_rfl) (by simp) ?_; refine AllReady.cons rfl (fun K hK => ?_) AllReady.nil; go_simp; refine hK _ _ ?_; clear hK K
      refine wpAny_done (by kernel_rfl) ?_ _
      go_wp2
      go_ret
      exact ⟨rfl, (by repeat (first | (with_reducible exact Fr.refl _) | ((with_reducible refine Fr.set ?_ ?_ _); focus (simp; done)) | (with_reducible refine Fr.alloc ?_ _) | (with_reducible refine Fr.drew ?_) | (with_reducible refine Fr.step ?_ (by assumption))))⟩
    · have h1M' : ¬ (1 : Int) < M := by omega
      have hor : bits .or .u64 ((Q : Int) / 2 ^ s) 0 = ((Q / 2 ^ s ||| 0 : Nat) : Int) := by rw [Hd.out]; exact or_word (Q / 2 ^ s) 0 hq (by decide)
      rw [if_neg h1M]
      clear e hq
      go_enter Tryz.func109, Tryz.ntmps109
      go_wp2_with fail
      refine (H1.out _).mono ?_
      rintro e w1 ⟨rfl, rfl⟩
      go_wp2_with fail
      refine (H2.out _).mono ?_
      rintro e w1 ⟨rfl, rfl⟩
      go_wp2_with fail
      refine (bool2_u64 false _).mono ?_
      rintro e w1 ⟨rfl, rfl⟩
      go_wp2_with fail
      refine wp_region_any (by kernel_rfl) ?_
      change wpAny _ _ _ _ _ _ _ (World.drew _)
      refine wpAny_take (i := 0) (v := .int .u64 Q) rfl (by kernel_rfl) (by kernel_rfl) (by kernel_rfl) (fun _ _ _ h => h) (Or.inl ⟨by rfl, fun W => by go_simp⟩) ?_
      refine wpAny_take (i := 1) (v := .int .i64 s) rfl (by kernel_rfl) (by kernel_rfl) (by kernel_rfl) (fun _ _ _ h => h) (Or.inl ⟨by rfl, fun W => by go_simp⟩) ?_
      refine wpAny_take (i := 2) (v := .int .u64 ((Q : Int) / 2 ^ s)) rfl (by kernel_rfl) (by kernel_rfl) (by kernel_rfl) (fun _ _ _ h => h) (Or.inl ⟨by rfl, fun W => by go_simp⟩) ?_
      refine wpAny_take (i := 3) (v := .int .u64 M) rfl (by kernel_rfl) (by kernel_rfl) (by kernel_rfl) (fun _ _ _ h => h) (Or.inl ⟨by rfl, fun W => by go_simp⟩) ?_
      refine wpAny_take (i := 4) (v := .int .u64 0) rfl (by kernel_rfl) (by kernel_rfl) (by kernel_rfl) (fun _ _ _ h => h) (Or.inl ⟨by rfl, fun W => by go_simp⟩) ?_
      refine wpAny_ready (rs := [5]) (by kernel_rfl) (by simp) ?_; refine AllReady.cons rfl (fun K hK => ?_) AllReady.nil; go_simp; refine hK _ _ ?_; clear hK K
      refine wpAny_ready (rs := [6]) (by kernel_rfl) (by simp) ?_; refine AllReady.cons rfl (fun K hK => ?_) AllReady.nil; go_simp; refine hK _ _ ?_; clear hK K
      refine wpAny_ready (rs := [7]) (by kernel_rfl) (by simp) ?_; refine AllReady.cons rfl (fun K hK => ?_) AllReady.nil; go_simp
      go_wp2_with (go_at_call 82; rw [show decide ((1 : Int) < (M : Int)) = false from decide_eq_false (by omega)]; refine (bool2_u64 false _).mono ?_; rintro e w1 ⟨rfl, rfl⟩)
      refine wpAny_ready (rs := [8]) (by kernel_rfl) (by simp) ?_; refine AllReady.cons rfl (fun K hK => ?_) AllReady.nil; go_simp; refine hK _ _ ?_; clear hK K
      refine wpAny_ready (rs := [9]) (by kernel_rfl) (by simp) ?_; refine AllReady.cons rfl (fun K hK => ?_) AllReady.nil; go_simp; refine hK _ _ ?_; clear hK K
      refine wpAny_done (by kernel_rfl) ?_ _
      go_wp2
      go_ret
      refine ⟨?_, (by repeat (first | (with_reducible exact Fr.refl _) | ((with_reducible refine Fr.set ?_ ?_ _); focus (simp; done)) | (with_reducible refine Fr.alloc ?_ _) | (with_reducible refine Fr.drew ?_) | (with_reducible refine Fr.step ?_ (by assumption))))⟩
      rw [Nat.or_zero, ← Hd.out]
      rfl
  · rw [if_neg e]
    have hne : (IntKind.u64.wrap ((Q : Int) / 2 ^ s * 2 ^ s) != (Q : Int)) = true := by rw [hw]; simpa using fun h : ((Q / 2 ^ s * 2 ^ s : Nat) : Int) = Q => e (by exact_mod_cast h)
    have hor : bits .or .u64 ((Q : Int) / 2 ^ s) 1 = ((Q / 2 ^ s ||| 1 : Nat) : Int) := by rw [Hd.out]; exact or_word (Q / 2 ^ s) 1 hq (by decide)
    clear hw e hq
    go_enter Tryz.func109, Tryz.ntmps109
    go_wp2_with fail
    refine (H1.out _).mono ?_
    rintro e w1 ⟨rfl, rfl⟩
    go_wp2
    go_ret
    exact ⟨rfl, (by repeat (first | (with_reducible exact Fr.refl _) | ((with_reducible refine Fr.set ?_ ?_ _); focus (simp; done)) | (with_reducible refine Fr.alloc ?_ _) | (with_reducible refine Fr.drew ?_) | (with_reducible refine Fr.step ?_ (by assumption))))⟩
end Go.Proofs.YtlhonpmpchkkfaaGreatDoor
/- The shortest digits of a whole number below 2^20. -/
namespace Go.Proofs.YtlhonpmpchkkfaaGreatDoor
open Go.RowKit
open Fl
/-- The table's rows that are read here. -/
def hiP (p : Nat) : Nat := 10 ^ p * 2 ^ (63 - p * 108853 / 32768)
def PT (w : World) : Prop := ∀ p : Nat, 10 ≤ p → p ≤ 16 → w.cell? ⟨10, (p + 348) * 2, none⟩ = some (.int .u64 (hiP p)) ∧ w.cell? ⟨10, (p + 348) * 2 + 1, none⟩ = some (.int .u64 0)
theorem PT.lt {w : World} (h : PT w) : 10 < w.heap.size := by
  have := (h 10 (by decide) (by decide)).1
  rcases Nat.lt_or_ge 10 w.heap.size with h' | h'
  · exact h'
  · simp [World.cell?, Array.getElem?_eq_none h'] at this
theorem PT.fr {w w' : World} (h : PT w) (hf : Fr w w') : PT w' := fun p h0 h1 => ⟨(hf.cells.1 _ _ h.lt).trans (h p h0 h1).1, (hf.cells.1 _ _ h.lt).trans (h p h0 h1).2⟩
set_option maxRecDepth 100000 in
set_option maxHeartbeats 2000000 in
theorem prescale_any (p b : Nat) (e lp : Int) (w : World) (hp0 : 10 ≤ p) (hp1 : p ≤ 16) (he : -2000 ≤ e ∧ e ≤ 2000) (hl : -2000 ≤ lp ∧ lp ≤ 2000) (ht : PT w) (a b' c : Value)
    (c0 : w.cell? ⟨b, 0, none⟩ = some a) (c1 : w.cell? ⟨b, 1, none⟩ = some b') (c2 : w.cell? ⟨b, 2, none⟩ = some c) (z0 : w.frozen? ⟨b, 0, none⟩ = false) (z1 : w.frozen? ⟨b, 1, none⟩ = false) (z2 : w.frozen? ⟨b, 2, none⟩ = false) (hbG : 10 < b) :
    Calls Tryz.prog 108 #[.pointer (some ⟨b, 0, none⟩), .int .i64 e, .int .i64 p, .int .i64 lp] w fun x w' => x = .returned (.tuple #[]) ∧
      (∀ w0, w0.heap.size ≤ b → Fr w0 w → Fr w0 w') ∧ w'.cell? ⟨b, 0, none⟩ = some (.int .u64 (hiP p)) ∧ w'.cell? ⟨b, 1, none⟩ = some (.int .u64 0) ∧ w'.cell? ⟨b, 2, none⟩ = some (.int .i64 (-(e + lp + 3))) := by
  obtain ⟨t0, t1⟩ := ht p hp0 hp1
  have hne : ¬ 10 = b := by omega
  have hne2 : ¬ b = 10 := by omega
  have hidx : ((p : Int) - -348).toNat = p + 348 := by omega
  generalize hiP p = H at *
  clear ht
  go_enter Tryz.func108, Tryz.ntmps108
  go_wp2
  refine bodyPost_end (v := .tuple #[]) (by simp [results, Tryz.results108, go_sem]) rfl ?_
  refine ⟨rfl, fun w0 h0 hf => ?_, ?_, ?_, ?_⟩
  · repeat (first | exact hf | refine Fr.set (by simpa using h0) ?_ _ | refine Fr.drew ?_)
  all_goals simp [go_sem, c0, c1, c2]
theorem sOf_all : ∀ L : Fin 20, ∀ pw : Bool, 3 ≤ sOf L.val pw ∧ lpOf L.val pw = pOf L.val pw * 108853 / 32768 ∧ lpOf L.val pw ≤ 63 ∧ pOf L.val pw ≤ 16 ∧ 10 ≤ pOf L.val pw ∧ (pOf L.val pw).toNat * 108853 / 32768 = (lpOf L.val pw).toNat := by decide +kernel
theorem usc_lt (x hi s : Nat) (hx : x < 2 ^ 64) (hh : hi < 2 ^ 64) (hs : 3 ≤ s) : usc x hi s < 2 ^ 62 := by
  have h := (usc_bounds x hi s).2
  have h1 : x * hi < 2 ^ 64 * 2 ^ 64 := Nat.mul_lt_mul'' hx hh
  have h2 : x * hi / 2 ^ (64 + s) ≤ x * hi / 2 ^ 67 := Nat.div_le_div_left (Nat.pow_le_pow_right (by decide) (by omega)) (by decide)
  have h3 : x * hi / 2 ^ 67 < 2 ^ 61 := Nat.div_lt_of_lt_mul (by rw [← Nat.pow_add]; exact Nat.lt_of_lt_of_eq h1 (by decide))
  omega
end Go.Proofs.YtlhonpmpchkkfaaGreatDoor
/- The shortest digits of a whole number below 2^20. -/
namespace Go.Proofs.YtlhonpmpchkkfaaGreatDoor
open Go.RowKit
open Fl
theorem cell_lt {w : World} {b o : Nat} {v : Value} (h : w.cell? ⟨b, o, none⟩ = some v) : b < w.heap.size := by
  rcases Nat.lt_or_ge b w.heap.size with h' | h'
  · exact h'
  · simp [World.cell?, Array.getElem?_eq_none h'] at h
set_option maxRecDepth 100000 in
set_option maxHeartbeats 4000000 in
theorem shortFloat_pow (hM : MulC) (n L m p s hi odd N : Nat) (w : World) (hL : L < 20) (ht : PT w) (hm : m = 9223372036854775808) (ho : m / 2048 % 2 = odd)
    (hp0 : 10 ≤ p) (hp1 : p ≤ 16) (hs0 : 3 ≤ s) (hs1 : s < 64) (hhi : hiP p = hi) (hhi2 : hi < 18446744073709551616)
    (hp : (((L : Int) - 63 + 11) * 631305 - 261663) / 2097152 = -(p : Int)) (hs : -(((L : Int) - 63) + (p : Int) * 108853 / 32768 + 3) = (s : Int)) (hl : -2000 ≤ (p : Int) * 108853 / 32768 ∧ (p : Int) * 108853 / 32768 ≤ 2000)
    (hmin : (usc (m - 512) hi s + odd + 3) / 4 ≤ N * 10) (hmax : (usc (m + 1024) hi s - odd) / 4 / 10 = N) (hou : odd ≤ usc (m + 1024) hi s) :
    Calls Tryz.prog 101 #[.int .u64 m, .int .i64 ((L : Int) - 63)] w fun e w' => e = .returned (.tuple #[.int .u64 N, .int .i64 (-((p : Int) - 1))]) ∧ Fr w w' := by
  subst hm
  have ho2 : odd = 0 := by omega
  subst ho2
  have HM := Lib.hid hM; clear hM
  have Ht := Lib.hid ht; clear ht
  have Hlt := Lib.hid Ht.out.lt
  have hodd : bits .and .i64 4503599627370496 1 = 0 := by decide +kernel
  change (usc 9223372036854775296 hi s + 0 + 3) / 4 ≤ N * 10 at hmin
  change (usc 9223372036854776832 hi s - 0) / 4 / 10 = N at hmax
  clear hou
  obtain ⟨u1, hu1⟩ : ∃ u1, u1 = usc 9223372036854775296 hi s := ⟨_, rfl⟩
  obtain ⟨u2, hu2⟩ : ∃ u2, u2 = usc 9223372036854776832 hi s := ⟨_, rfl⟩
  rw [← hu1] at hmin
  rw [← hu2] at hmax
  have hb1 : u1 < 2 ^ 62 := by rw [hu1]; exact usc_lt _ _ _ (by decide) hhi2 hs0
  have hb2 : u2 < 2 ^ 62 := by rw [hu2]; exact usc_lt _ _ _ (by decide) hhi2 hs0
  have Hu1 := Lib.hid hu1; clear hu1
  have Hu2 := Lib.hid hu2; clear hu2
  clear ho
  go_enter Tryz.func101, Tryz.ntmps101
  go_wp2_with fail
  refine (skewed_any _ _ (by omega) (by omega)).mono ?_
  rintro e w1 ⟨rfl, rfl⟩
  rw [hp]
  clear hp
  go_wp2_with fail
  refine (log2Pow10_any _ _ (by omega) (by omega)).mono ?_
  rintro e w1 ⟨rfl, rfl⟩
  go_wp2_with fail
  refine (prescale_any p w.heap.size _ _ _ hp0 hp1 (by omega) hl (Ht.out.fr (by repeat (first | (with_reducible exact Fr.refl _) | ((with_reducible refine Fr.set ?_ ?_ _); focus (simp; done)) | (with_reducible refine Fr.alloc ?_ _) | (with_reducible refine Fr.drew ?_) | (with_reducible refine Fr.step ?_ (by assumption))))) (.int .u64 0) (.int .u64 0) (.int .i64 0) (by simp [go_sem]) (by simp [go_sem]) (by simp [go_sem]) (by simp [go_sem]) (by simp [go_sem]) (by simp [go_sem]) Hlt.out).mono ?_
  rintro e w1 ⟨rfl, hf1, d0, d1, d2⟩
  have hf1 := hf1 w (Nat.le_refl _) (by repeat (first | (with_reducible exact Fr.refl _) | ((with_reducible refine Fr.set ?_ ?_ _); focus (simp; done)) | (with_reducible refine Fr.alloc ?_ _) | (with_reducible refine Fr.drew ?_) | (with_reducible refine Fr.step ?_ (by assumption))))
  rw [hhi] at d0
  rw [hs] at d2
  obtain ⟨hc1, hz1⟩ := hf1.cells
  go_wp2_with fail
  refine (uscale_any HM.out 9223372036854775296 hi s _ _ (by decide) hhi2 hs1 d0 d1 d2).mono ?_
  rintro e w2 ⟨rfl, hf2⟩
  rw [← Hu1.out]
  have hbl : w.heap.size < w1.heap.size := by have := hf1.size; exact cell_lt d0
  have d0' := (hf2.cells.1 _ _ hbl).trans d0
  have d1' := (hf2.cells.1 _ _ hbl).trans d1
  have d2' := (hf2.cells.1 _ _ hbl).trans d2
  clear d0 d1 d2
  go_wp2_with fail
  refine (nudge_up u1 0 _ (by omega) (by decide)).mono ?_
  rintro e w3 ⟨rfl, rfl⟩
  rw [Nat.add_zero]
  go_wp2_with fail
  refine (ceil_any u1 _ (by omega)).mono ?_
  rintro e w3 ⟨rfl, rfl⟩
  go_wp2_with fail
  refine (uscale_any HM.out 9223372036854776832 hi s _ _ (by decide) hhi2 hs1 d0' d1' d2').mono ?_
  rintro e w3 ⟨rfl, hf3⟩
  rw [← Hu2.out]
  go_wp2_with fail
  refine (nudge_up u2 0 _ (by omega) (by decide)).mono ?_
  rintro e w4 ⟨rfl, rfl⟩
  rw [Nat.add_zero]
  go_wp2_with fail
  refine (floor_any u2 _ (by omega)).mono ?_
  rintro e w4 ⟨rfl, rfl⟩
  have hD : u2 / 4 < 2 ^ 60 := by omega
  generalize u2 / 4 = D at *
  have hNi : (D : Int) / 10 = N := by omega
  have hN2 : ((u1 : Int) + 3) / 4 ≤ (N : Int) * 10 := by omega
  have hN2' : ¬ (N : Int) * 10 < ((u1 : Int) + 3) / 4 := by omega
  have hN3 : (N : Int) ≤ 2 ^ 60 := by omega
  clear hmin hmax
  go_wp2
  first | go_ret | go_ret2
  exact ⟨rfl, (by repeat (first | (with_reducible exact Fr.refl _) | ((with_reducible refine Fr.set ?_ ?_ _); focus (simp; done)) | (with_reducible refine Fr.alloc ?_ _) | (with_reducible refine Fr.drew ?_) | (with_reducible refine Fr.step ?_ (by assumption))))⟩
end Go.Proofs.YtlhonpmpchkkfaaGreatDoor
/- The shortest digits of a whole number below 2^20 that is no power of two; both together. -/
namespace Go.Proofs.YtlhonpmpchkkfaaGreatDoor
open Go.RowKit
open Fl
theorem i64_and1 (n : Int) : bits .and .i64 n 1 = n % 2 := by
  have h1 : (BitVec.ofInt 64 1).toNat = 2 ^ 1 - 1 := by decide
  have key : (BitVec.ofInt 64 n &&& BitVec.ofInt 64 1).toNat = (n % ((2 ^ 64 : Nat) : Int)).toNat % 2 ^ 1 := by
    rw [BitVec.toNat_and, BitVec.toNat_ofInt, h1, Nat.and_two_pow_sub_one_eq_mod]
  show IntKind.i64.wrap ((BitVec.ofInt 64 n &&& BitVec.ofInt 64 1).toNat : Nat) = n % 2
  rw [key, IntKind.wrap_i64]
  omega
set_option maxRecDepth 100000 in
set_option maxHeartbeats 4000000 in
theorem shortFloat_gen (hM : MulC) (L m p s hi odd N : Nat) (w : World) (hL : L < 20) (ht : PT w) (hm0 : 9223372036854775808 < m) (hm1 : m + 1024 < 18446744073709551616) (ho : m / 2048 % 2 = odd)
    (hp0 : 10 ≤ p) (hp1 : p ≤ 16) (hs0 : 3 ≤ s) (hs1 : s < 64) (hhi : hiP p = hi) (hhi2 : hi < 18446744073709551616)
    (hp : ((L : Int) - 63 + 11) * 78913 / 262144 = -(p : Int)) (hs : -(((L : Int) - 63) + (p : Int) * 108853 / 32768 + 3) = (s : Int)) (hl : -2000 ≤ (p : Int) * 108853 / 32768 ∧ (p : Int) * 108853 / 32768 ≤ 2000)
    (hmin : (usc (m - 1024) hi s + odd + 3) / 4 ≤ N * 10) (hmax : (usc (m + 1024) hi s - odd) / 4 / 10 = N) (hou : odd ≤ usc (m + 1024) hi s) :
    Calls Tryz.prog 101 #[.int .u64 m, .int .i64 ((L : Int) - 63)] w fun e w' => e = .returned (.tuple #[.int .u64 N, .int .i64 (-((p : Int) - 1))]) ∧ Fr w w' := by
  have HM := Lib.hid hM; clear hM
  have Ht := Lib.hid ht; clear ht
  have Hlt := Lib.hid Ht.out.lt
  have hodd : bits .and .i64 ((m : Int) / 2048) 1 = (odd : Int) := by rw [i64_and1]; omega
  have ho1 : odd ≤ 1 := by omega
  obtain ⟨u1, hu1⟩ : ∃ u1, u1 = usc (m - 1024) hi s := ⟨_, rfl⟩
  obtain ⟨u2, hu2⟩ : ∃ u2, u2 = usc (m + 1024) hi s := ⟨_, rfl⟩
  rw [← hu1] at hmin
  rw [← hu2] at hmax hou
  have hb1 : u1 < 2 ^ 62 := by rw [hu1]; exact usc_lt _ _ _ (by omega) hhi2 hs0
  have hb2 : u2 < 2 ^ 62 := by rw [hu2]; exact usc_lt _ _ _ (by omega) hhi2 hs0
  have Hu1 := Lib.hid hu1; clear hu1
  have Hu2 := Lib.hid hu2; clear hu2
  have Ho := Lib.hid ho; clear ho
  have hne : ((m : Int) == 9223372036854775808) = false := by simp; omega
  have hmA : ((m - 1024 : Nat) : Int) = (m : Int) - 1024 := by omega
  have HmA := Lib.hid hmA; clear hmA
  go_enter Tryz.func101, Tryz.ntmps101
  go_wp2_with fail
  refine (log10Pow2_any _ _ (by omega) (by omega)).mono ?_
  rintro e w1 ⟨rfl, rfl⟩
  rw [hp]
  clear hp
  go_wp2_with fail
  refine (log2Pow10_any _ _ (by omega) (by omega)).mono ?_
  rintro e w1 ⟨rfl, rfl⟩
  go_wp2_with fail
  refine (prescale_any p w.heap.size _ _ _ hp0 hp1 (by omega) hl (Ht.out.fr (by repeat (first | (with_reducible exact Fr.refl _) | ((with_reducible refine Fr.set ?_ ?_ _); focus (simp; done)) | (with_reducible refine Fr.alloc ?_ _) | (with_reducible refine Fr.drew ?_) | (with_reducible refine Fr.step ?_ (by assumption))))) (.int .u64 0) (.int .u64 0) (.int .i64 0) (by simp [go_sem]) (by simp [go_sem]) (by simp [go_sem]) (by simp [go_sem]) (by simp [go_sem]) (by simp [go_sem]) Hlt.out).mono ?_
  rintro e w1 ⟨rfl, hf1, d0, d1, d2⟩
  have hf1 := hf1 w (Nat.le_refl _) (by repeat (first | (with_reducible exact Fr.refl _) | ((with_reducible refine Fr.set ?_ ?_ _); focus (simp; done)) | (with_reducible refine Fr.alloc ?_ _) | (with_reducible refine Fr.drew ?_) | (with_reducible refine Fr.step ?_ (by assumption))))
  rw [hhi] at d0
  rw [hs] at d2
  obtain ⟨hc1, hz1⟩ := hf1.cells
  go_wp2_with fail
  rw [← HmA.out]
  refine (uscale_any HM.out (m - 1024) hi s _ _ (by omega) hhi2 hs1 d0 d1 d2).mono ?_
  rintro e w2 ⟨rfl, hf2⟩
  rw [← Hu1.out]
  have hbl : w.heap.size < w1.heap.size := cell_lt d0
  have d0' := (hf2.cells.1 _ _ hbl).trans d0
  have d1' := (hf2.cells.1 _ _ hbl).trans d1
  have d2' := (hf2.cells.1 _ _ hbl).trans d2
  clear d0 d1 d2
  go_wp2_with fail
  refine (nudge_up u1 odd _ (by omega) ho1).mono ?_
  rintro e w3 ⟨rfl, rfl⟩
  go_wp2_with fail
  refine (ceil_any (u1 + odd) _ (by omega)).mono ?_
  rintro e w3 ⟨rfl, rfl⟩
  generalize hE : (u1 + odd + 3) / 4 = E at hmin ⊢
  clear hE
  go_wp2_with fail
  rw [show ((m : Int) + 1024) = ((m + 1024 : Nat) : Int) by omega]
  refine (uscale_any HM.out (m + 1024) hi s _ _ (by omega) hhi2 hs1 d0' d1' d2').mono ?_
  rintro e w3 ⟨rfl, hf3⟩
  rw [← Hu2.out]
  go_wp2_with fail
  refine (nudge_down u2 odd _ (by omega) ho1 hou).mono ?_
  rintro e w4 ⟨rfl, rfl⟩
  go_wp2_with fail
  refine (floor_any (u2 - odd) _ (by omega)).mono ?_
  rintro e w4 ⟨rfl, rfl⟩
  have hD : (u2 - odd) / 4 < 2 ^ 60 := by omega
  generalize (u2 - odd) / 4 = D at *
  have hNi : (D : Int) / 10 = N := by omega
  have hN2 : (E : Int) ≤ (N : Int) * 10 := by omega
  have hN2' : ¬ (N : Int) * 10 < (E : Int) := by omega
  have hN3 : (N : Int) ≤ 2 ^ 60 := by omega
  clear hmin hmax
  go_wp2
  first | go_ret | go_ret2
  exact ⟨rfl, (by repeat (first | (with_reducible exact Fr.refl _) | ((with_reducible refine Fr.set ?_ ?_ _); focus (simp; done)) | (with_reducible refine Fr.alloc ?_ _) | (with_reducible refine Fr.drew ?_) | (with_reducible refine Fr.step ?_ (by assumption))))⟩
end Go.Proofs.YtlhonpmpchkkfaaGreatDoor
/- The shortest digits of any whole number below 2^20. -/
namespace Go.Proofs.YtlhonpmpchkkfaaGreatDoor
open Go.RowKit
open Fl
theorem log2_of (n : Nat) (h0 : 0 < n) (h : n < 2 ^ 20) : n.log2 < 20 ∧ 2 ^ n.log2 ≤ n ∧ n < 2 ^ (n.log2 + 1) :=
  ⟨(Nat.log2_lt (by omega)).2 h, Nat.log2_self_le (by omega), Nat.lt_log2_self⟩
theorem shortFloat_whole (hM : MulC) (n : Nat) (h0 : 0 < n) (h : n < 2 ^ 20) : ∃ k : Nat, 9 ≤ k ∧ k ≤ 15 ∧ n * 10 ^ k < 18446744073709551616 ∧ ∀ w, PT w →
    Calls Tryz.prog 101 #[.int .u64 ((n * 2 ^ (63 - n.log2) : Nat) : Int), .int .i64 ((n.log2 : Int) - 63)] w fun e w' =>
      e = .returned (.tuple #[.int .u64 ((n * 10 ^ k : Nat) : Int), .int .i64 (-(k : Int))]) ∧ Fr w w' := by
  obtain ⟨hL, hlo, hhi⟩ := log2_of n h0 h
  obtain ⟨hm, hm0, hm1⟩ := left_end n h0 (by omega)
  generalize hLL : n.log2 = L at *
  have hpw : 2 ^ L * 2 ^ (63 - L) = 2 ^ 63 := by rw [← Nat.pow_add, show L + (63 - L) = 63 by omega]
  have hpw2 : 2 ^ (L + 1) * 2 ^ (63 - L) = 2 ^ 64 := by rw [← Nat.pow_add, show L + 1 + (63 - L) = 64 by omega]
  have hbig : 2 ^ 44 ≤ 2 ^ (63 - L) := Nat.pow_le_pow_right (by decide) (by omega)
  by_cases hpow : n = 2 ^ L
  · obtain ⟨c1, c2, c3, c4, c5, c6, c7, c8, c9⟩ := consts' L hL true
    obtain ⟨s3, sl, sl63, _, _, slp⟩ := sOf_all ⟨L, hL⟩ true
    simp only at s3 sl sl63 slp
    obtain ⟨p, ep⟩ : ∃ p : Nat, (p : Int) = pOf L true := ⟨(pOf L true).toNat, by omega⟩
    obtain ⟨s, es⟩ : ∃ s : Nat, (s : Int) = sOf L true := ⟨(sOf L true).toNat, by omega⟩
    have hpp : (pOf L true).toNat = p := by omega
    have hhiP : hiP p = hiOf L true := by unfold hiP hiOf; rw [hpp] at slp ⊢; rw [slp]
    have hodd : n * 2 ^ (63 - L) / 2048 % 2 = 0 := by rw [hpow, hpw]
    obtain ⟨g1, g2⟩ := short_core L hL true n 0 (by decide) (hiOf L true) s p rfl es ep (by simp only [cMin, if_true]; omega)
    have hu := usc_lt (n * 2 ^ (63 - L) + 1024) (hiOf L true) s (by omega) c6 (by omega)
    refine ⟨p - 1, by omega, by omega, by omega, fun w ht => ?_⟩
    have e1 : ((L : Int) - 63 + 11) * 631305 - 261663 = ((L : Int) - 52) * 631305 - 261663 := by omega
    have hcall := shortFloat_pow hM n L (n * 2 ^ (63 - L)) p s (hiOf L true) 0 (n * 10 ^ (p - 1)) w hL ht (by rw [hpow, hpw]) hodd (by omega) (by omega) (by omega) (by omega) hhiP c6
      (by rw [e1]; unfold pOf at ep; simp only [if_true] at ep; omega) (by unfold sOf at es; rw [es, sl, ← ep]) (by rw [ep, ← sl]; omega) (by simpa [cMin] using g2) (by simpa using g1) (Nat.zero_le _)
    refine hcall.mono fun e w' ⟨he, hf⟩ => ⟨?_, hf⟩
    rw [he, show ((p - 1 : Nat) : Int) = (p : Int) - 1 by omega]
  · obtain ⟨c1, c2, c3, c4, c5, c6, c7, c8, c9⟩ := consts' L hL false
    obtain ⟨s3, sl, sl63, _, _, slp⟩ := sOf_all ⟨L, hL⟩ false
    simp only at s3 sl sl63 slp
    obtain ⟨p, ep⟩ : ∃ p : Nat, (p : Int) = pOf L false := ⟨(pOf L false).toNat, by omega⟩
    obtain ⟨s, es⟩ : ∃ s : Nat, (s : Int) = sOf L false := ⟨(sOf L false).toNat, by omega⟩
    have hpp : (pOf L false).toNat = p := by omega
    have hhiP : hiP p = hiOf L false := by unfold hiP hiOf; rw [hpp] at slp ⊢; rw [slp]
    have hgt : (2 ^ L + 1) * 2 ^ (63 - L) ≤ n * 2 ^ (63 - L) := Nat.mul_le_mul_right _ (by omega)
    have hlt : (n + 1) * 2 ^ (63 - L) ≤ 2 ^ (L + 1) * 2 ^ (63 - L) := Nat.mul_le_mul_right _ (by omega)
    rw [Nat.add_mul, hpw] at hgt
    rw [Nat.add_mul, hpw2] at hlt
    obtain ⟨odd, hodd⟩ : ∃ odd, n * 2 ^ (63 - L) / 2048 % 2 = odd := ⟨_, rfl⟩
    have ho : odd ≤ 1 := by omega
    obtain ⟨g1, g2⟩ := short_core L hL false n odd ho (hiOf L false) s p rfl es ep (by simp only [cMin]; simp; omega)
    have hN : 1 ≤ n * 10 ^ (p - 1) := Nat.mul_pos h0 (Nat.pow_pos (by decide))
    have hu := usc_lt (n * 2 ^ (63 - L) + 1024) (hiOf L false) s (by omega) c6 (by omega)
    refine ⟨p - 1, by omega, by omega, by omega, fun w ht => ?_⟩
    have e1 : ((L : Int) - 63 + 11) = ((L : Int) - 52) := by omega
    have hcall := shortFloat_gen hM L (n * 2 ^ (63 - L)) p s (hiOf L false) odd (n * 10 ^ (p - 1)) w hL ht (by omega) (by omega) hodd (by omega) (by omega) (by omega) (by omega) hhiP c6
      (by rw [e1]; unfold pOf at ep; simp at ep; omega) (by unfold sOf at es; rw [es, sl, ← ep]) (by rw [ep, ← sl]; omega) (by simpa [cMin] using g2) (by simpa using g1) (by omega)
    refine hcall.mono fun e w' ⟨he, hf⟩ => ⟨?_, hf⟩
    rw [he, show ((p - 1 : Nat) : Int) = (p : Int) - 1 by omega]
end Go.Proofs.YtlhonpmpchkkfaaGreatDoor
/- The digits of a number laid into a buffer, zeros at the end left out. -/
namespace Go.Proofs.YtlhonpmpchkkfaaGreatDoor
open Go.RowKit
open Fl
open Go.Lib (dg nDigits FmtInv)
open Go.Sort
def encB : UInt8 → Value := fun b => Value.int .u8 (b.toNat : Int)
def LenC : Prop := ∀ (x : Nat) (w : World), x < 18446744073709551616 → Calls Tryz.prog 92 #[.int .u64 x] w fun e w' => e = .returned (.int .i64 (Lib.bitLen x)) ∧ w' = w
def NumC : Prop := ∀ (u : Nat) (w : World), 1 ≤ u → u < 18446744073709551616 → Lib.TabIs Tryz.prog w "internal/strconv.uint64pow10" .u64 Lib.pow10Tab →
  Calls Tryz.prog 95 #[.int .u64 u] w fun e w' => e = .returned (.int .i64 (nDigits u)) ∧ w' = w
def FmtC : Prop := ∀ (blk off cap u : Nat) (d : Array UInt8) (w : World), Holds encB w blk off d → u < 10 ^ d.size → u < 18446744073709551616 → d.size < 4611686018427387904 →
  Calls Tryz.prog 123 #[.slice (some ⟨blk, off, none⟩) d.size cap, .int .u64 u] w fun e w' =>
    e = .returned (.tuple #[]) ∧ ∃ (n v' : Nat) (dk : Array UInt8), w' = (putRow encB w blk off dk).drewN n ∧ FmtInv d.size u 0 v' dk
theorem Fr.putRow {w0 W : World} (h : Fr w0 W) (b off : Nat) (d : Array UInt8) (hb : w0.heap.size ≤ b) : Fr w0 (putRow encB W b off d) := by
  refine ⟨h.os, h.tape, h.output, by simpa using h.size, fun i hi => ?_⟩
  rw [← h.block i hi]
  show (W.heap.modify b _)[i]? = W.heap[i]?
  rw [Array.getElem?_modify, if_neg (by omega)]
/-- What setDigits tells. -/
def Trimmed (d nd z : Nat) : Prop := z ≤ nd ∧ (∀ t, z ≤ t → t < nd → dg d (nd - 1 - t) = 48) ∧ (z = 0 ∨ dg d (nd - z) ≠ 48)
set_option maxRecDepth 100000 in
set_option maxHeartbeats 4000000 in
theorem setDigits_any (hF : FmtC) (d nd k b : Nat) (w : World) (hd : d < 10 ^ nd) (hd64 : d < 18446744073709551616) (hnd : nd ≤ 32) (h1 : 1 ≤ nd) (hk : k ≤ 100)
    (hz : ∀ j, j < 32 → w.cell? ⟨b, j, none⟩ = some (.int .u8 0) ∧ w.frozen? ⟨b, j, none⟩ = false) (c0 : Array Value) (te : TypeId) (fz : Nat × Nat) (hob : w.heap[b]? = some (.cells c0 te fz)) :
    Calls Tryz.prog 94 #[.slice (some ⟨b, 0, none⟩) 32 32, .int .u64 d, .int .i64 (-(k : Int)), .int .i64 nd] w fun e w' => ∃ z : Nat, e = .returned (.tuple #[.int .i64 ((nd : Int) - k), .int .i64 z]) ∧ Trimmed d nd z ∧
      (∀ w0, w0.heap.size ≤ b → Fr w0 w → Fr w0 w') ∧ (∀ j, j < nd → w'.cell? ⟨b, j, none⟩ = some (.int .u8 ((dg d (nd - 1 - j)).toNat : Int))) ∧ ∃ c1, w'.heap[b]? = some (.cells c1 te fz) := by
  have Hob := Lib.hid hob; clear hob
  have hH : Holds encB w b 0 (Array.replicate nd 0) := by
    intro j hj
    have hj' : j < nd := by simpa using hj
    have := hz j (by omega)
    refine ⟨?_, by simpa using this.2⟩
    rw [Nat.zero_add, this.1]
    simp [encB, getElem!_pos, hj']
  have hC := fun w => hF b 0 32 d (Array.replicate nd 0) w
  simp only [Array.size_replicate] at hC
  have HC := Lib.hid (hC w hH hd hd64 (by omega))
  have HH := Lib.hid hH
  clear hF hC hH hz hd hd64
  go_enter Tryz.func94, Tryz.ntmps94
  go_wp2_with fail
  refine HC.out.mono ?_
  rintro e w1 ⟨rfl, n, v', dk, rfl, hI⟩
  have hcell : ∀ j, j < nd → ((putRow encB w b 0 dk).drewN n).cell? ⟨b, j, none⟩ = some (.int .u8 ((dg d (nd - 1 - j)).toNat : Int)) := by
    intro j hj
    rw [World.cell?_drewN]
    have := cell?_putRow encB w b 0 (Array.replicate nd 0) dk HH.out (by rw [hI.size, Array.size_replicate]) j (by rw [hI.size]; exact hj)
    rw [Nat.zero_add] at this
    rw [this, hI.done j (Nat.zero_le _) hj]
    rfl
  have hfr := Lib.hid (show ∀ w0, w0.heap.size ≤ b → Fr w0 w → Fr w0 ((putRow encB w b 0 dk).drewN n) from fun w0 h0 h => (Fr.putRow h b 0 dk h0).drewN n)
  have hob1 := Lib.hid (show ∃ c1, ((putRow encB w b 0 dk).drewN n).heap[b]? = some (.cells c1 te fz) from by
    refine ⟨putCells encB 0 dk c0, ?_⟩
    show (w.heap.modify b (onCells (putCells encB 0 dk)))[b]? = _
    rw [Array.getElem?_modify, if_pos rfl, Hob.out]
    rfl)
  generalize (putRow encB w b 0 dk).drewN n = W at *
  clear Hob
  clear hI HC HH
  have HCl := Lib.hid hcell; clear hcell
  go_wp2
  go_loop [3] (fun i => ∃ z : Nat, z ≤ nd ∧ i = .int .i64 z ∧ ∀ t, z ≤ t → t < nd → dg d (nd - 1 - t) = 48) (fun i => (intOf i).toNat)
  case atStart => exact ⟨nd, Nat.le_refl _, rfl, fun t h1 h2 => by omega⟩
  case round =>
    obtain ⟨z, hz, rfl, hZ⟩ := hrel
    have HZ := Lib.hid hZ; clear hZ
    by_cases h0 : z = 0
    · subst h0
      go_wp2
      first | go_ret | go_ret2
      exact ⟨0, by simp; omega, ⟨Nat.zero_le _, HZ.out, .inl rfl⟩, hfr.out, HCl.out, hob1.out⟩
    · have hc := HCl.out (z - 1) (by omega)
      have e1 : nd - 1 - (z - 1) = nd - z := by omega
      rw [e1] at hc
      have hzi : ((z : Int) - 1).toNat = z - 1 := by omega
      by_cases h48 : dg d (nd - z) = 48
      · rw [h48] at hc
        have HZ2 := Lib.hid (show ∀ t, z - 1 ≤ t → t < nd → dg d (nd - 1 - t) = 48 from fun t h1 h2 => by
          by_cases ht : t = z - 1
          · subst ht; rw [e1]; exact h48
          · exact HZ.out t (by omega) h2)
        clear h48 e1
        go_wp2
        go_round
        case rel => exact ⟨z - 1, by omega, by simp; omega, HZ2.out⟩
        case measure => simp [intOf]; omega
      · have h48' : ¬ ((dg d (nd - z)).toNat : Int) = 48 := fun h => h48 (UInt8.toNat_inj.1 (show (dg d (nd - z)).toNat = (48 : UInt8).toNat by simpa using (by omega : (dg d (nd - z)).toNat = 48)))
        have H48 := Lib.hid h48; clear h48 e1
        generalize hq : ((dg d (nd - z)).toNat : Int) = q at *
        have hbe : (q == 48) = false := by simp [h48']
        go_wp2
        first | go_ret | go_ret2
        exact ⟨z, rfl, ⟨hz, HZ.out, .inr H48.out⟩, hfr.out, HCl.out, hob1.out⟩
end Go.Proofs.YtlhonpmpchkkfaaGreatDoor
