import Derived.Test.YtnpnclhjfemldaaGreatDoorProg
import Derived.WalkKit
import Derived.WalkSpells
import Derived.WalkLawsBesides
import Derived.Outline
import Derived.Lib.Hide
import Derived.Lib.ConvBytes
import Derived.Laws.BytesArg
set_option linter.unusedSimpArgs false
set_option linter.unusedVariables false
namespace Go.Proofs.YtnpnclhjfemldaaGreatDoor
open Go.RowKit

end Go.Proofs.YtnpnclhjfemldaaGreatDoor
namespace Go.Proofs.YtnpnclhjfemldaaGreatDoor
open Go.RowKit
/-- A call's frame: nothing that was there has turned. -/
def Fr (w w' : World) : Prop := Below w.heap.size w w'
theorem Fr.refl (w : World) : Fr w w := Below.refl _ _
theorem Fr.alloc {w W : World} (h : Fr w W) (o : Obj) : Fr w (W.alloc o) := Below.alloc h (Below.size h) o
theorem Fr.drew {w W : World} (h : Fr w W) : Fr w W.drew := Below.drew h
theorem Fr.step {w W W' : World} (h : Fr w W) (k : Fr W W') : Fr w W' :=
  Below.trans h ⟨k.os, k.tape, k.output, k.size, fun i hi => k.block i (Nat.lt_of_lt_of_le hi h.size)⟩
theorem Fr.set {w W : World} {p : Addr} (hp : w.heap.size ≤ p.block) (h : Fr w W) (u : Value) : Fr w (W.setCell p u) := Below.setCell h hp u
theorem Fr.grown {w W W' : World} (h : Fr w W) {row : Option Nat} (hg : W.grownBy W' row) (hr : ∀ k, row = some k → w.heap.size ≤ k) : Fr w W' := Below.grown h hg h.size hr
theorem Fr.drewN {w W : World} (h : Fr w W) (n : Nat) : Fr w (W.drewN n) := ⟨h.os, h.tape, h.output, h.size, h.block⟩
theorem Fr.of {w w' : World} (h : Below w.heap.size w w') : Fr w w' := h
/-- What the walk takes as rules behind a call. -/
theorem Fr.cells {W w1 : World} (hb : Fr W w1) : (∀ b o, b < W.heap.size → w1.cell? ⟨b, o, none⟩ = W.cell? ⟨b, o, none⟩) ∧ (∀ b o, b < W.heap.size → w1.frozen? ⟨b, o, none⟩ = W.frozen? ⟨b, o, none⟩) :=
  ⟨fun b o h => hb.cell (p := ⟨b, o, none⟩) h, fun b o h => hb.frozen (p := ⟨b, o, none⟩) h⟩

/-- A value of the reference without rows. -/
def sv (k n d : Int) (s : ByteArray) : Value := .agg #[.int .i64 k, .int .i64 n, .int .i64 d, .string s, .slice none 0 0]
def mt : ByteArray := ⟨#[]⟩
/-- Some Bool. -/
def SomeB (w : World) (e : Ending) (w' : World) : Prop := ∃ b, e = .returned (.bool b) ∧ Fr w w'
def TextLe (m : Nat) (w : World) (e : Ending) (w' : World) : Prop := ∃ t : ByteArray, t.size ≤ m ∧ e = .returned (.string t) ∧ Fr w w'
/-- Some value without rows; a number is within the bounds. -/
def SomeV (w : World) (e : Ending) (w' : World) : Prop := ∃ k n d t, e = .returned (sv k n d t) ∧ (k = 1 → -99999999999 ≤ n ∧ n ≤ 99999999999) ∧ Fr w w'
theorem SomeV.mk {w w' : World} {k n d : Int} {t : ByteArray} (hk : k = 1 → -99999999999 ≤ n ∧ n ≤ 99999999999) (hf : Fr w w') : SomeV w (.returned (sv k n d t)) w' := ⟨k, n, d, t, rfl, hk, hf⟩
theorem byte_range (c : UInt8) : (0 : Int) ≤ (c.toNat : Int) ∧ (c.toNat : Int) ≤ 255 := by have := c.toNat_lt; omega

set_option maxHeartbeats 400000 in
theorem Err_any (s : ByteArray) (w : World) :
    Calls Tryz.prog 109 #[.string s] w fun e w' => e = .returned (sv 4 0 0 s) ∧ Fr w w' := by
  go_enter Tryz.func109, Tryz.ntmps109
  go_wp2
  exact bodyPost_ret (v := sv 4 0 0 s) (by simp [results, Tryz.results109, go_sem, sv]) rfl ⟨rfl, (Fr.refl _).alloc _⟩
set_option maxHeartbeats 400000 in
theorem Doubt_any (w : World) :
    Calls Tryz.prog 16 #[] w fun e w' => e = .returned (sv 6 0 0 mt) ∧ Fr w w' := by
  go_enter Tryz.func16, Tryz.ntmps16
  go_wp2
  exact bodyPost_ret (v := sv 6 0 0 mt) (by simp [results, Tryz.results16, go_sem, sv, mt]) rfl ⟨rfl, (Fr.refl _).alloc _⟩
def intV (n : Int) : Value := if n > 99999999999 ∨ n < -99999999999 then sv 6 0 0 mt else sv 1 n 1 mt
set_option maxHeartbeats 400000 in
theorem Int_any (n : Int) (w : World) :
    Calls Tryz.prog 7 #[.int .i64 n] w fun e w' => e = .returned (intV n) ∧ Fr w w' := by
  by_cases h1 : 99999999999 < n
  · have hv := Lib.hid (show intV n = sv 6 0 0 mt by unfold intV; rw [if_pos (.inl h1)])
    go_enter Tryz.func7, Tryz.ntmps7
    go_wp2_with fail
    refine (Doubt_any _).mono ?_
    rintro e w1 ⟨rfl, hf⟩
    obtain ⟨hc, hz⟩ := hf.cells
    unfold sv
    go_wp2
    exact bodyPost_ret (v := sv 6 0 0 mt) (by simp [results, Tryz.results7, go_sem, sv, mt, *]) rfl ⟨by rw [hv.out], (by repeat (first | (with_reducible exact Fr.refl _) | ((with_reducible refine Fr.set ?_ ?_ _); focus (simp; done)) | (with_reducible refine Fr.alloc ?_ _) | (with_reducible refine Fr.drew ?_) | (with_reducible refine Fr.step ?_ (by assumption))))⟩
  · by_cases h2 : n < -99999999999
    · have hv := Lib.hid (show intV n = sv 6 0 0 mt by unfold intV; rw [if_pos (.inr h2)])
      go_enter Tryz.func7, Tryz.ntmps7
      go_wp2_with fail
      refine (Doubt_any _).mono ?_
      rintro e w1 ⟨rfl, hf⟩
      obtain ⟨hc, hz⟩ := hf.cells
      unfold sv
      go_wp2
      exact bodyPost_ret (v := sv 6 0 0 mt) (by simp [results, Tryz.results7, go_sem, sv, mt, *]) rfl ⟨by rw [hv.out], (by repeat (first | (with_reducible exact Fr.refl _) | ((with_reducible refine Fr.set ?_ ?_ _); focus (simp; done)) | (with_reducible refine Fr.alloc ?_ _) | (with_reducible refine Fr.drew ?_) | (with_reducible refine Fr.step ?_ (by assumption))))⟩
    · have hv := Lib.hid (show intV n = sv 1 n 1 mt by unfold intV; rw [if_neg (by omega)])
      go_enter Tryz.func7, Tryz.ntmps7
      go_wp2
      exact bodyPost_ret (v := sv 1 n 1 mt) (by simp [results, Tryz.results7, go_sem, sv, mt, *]) rfl ⟨by rw [hv.out], (by repeat (first | (with_reducible exact Fr.refl _) | ((with_reducible refine Fr.set ?_ ?_ _); focus (simp; done)) | (with_reducible refine Fr.alloc ?_ _) | (with_reducible refine Fr.drew ?_) | (with_reducible refine Fr.step ?_ (by assumption))))⟩
end Go.Proofs.YtnpnclhjfemldaaGreatDoor
namespace Go.Proofs.YtnpnclhjfemldaaGreatDoor
open Go.RowKit
def lowc (c : Int) : Int := if 65 ≤ c ∧ c ≤ 90 then c + 32 else c
set_option maxHeartbeats 400000 in
theorem Lower_any (c : Int) (w : World) (h0 : 0 ≤ c) (h1 : c ≤ 255) :
    Calls Tryz.prog 186 #[.int .u8 c] w fun e w' => e = .returned (.int .u8 (lowc c)) ∧ w = w' := by
  by_cases ha : 65 ≤ c
  · by_cases hb : c ≤ 90
    · have hv := Lib.hid (show lowc c = c + 32 by unfold lowc; rw [if_pos ⟨ha, hb⟩])
      go_enter Tryz.func186, Tryz.ntmps186
      go_wp2
      go_ret
      exact ⟨by rw [hv.out]; rfl, rfl⟩
    · have hv := Lib.hid (show lowc c = c by unfold lowc; rw [if_neg (by omega)])
      go_enter Tryz.func186, Tryz.ntmps186
      go_wp2
      go_ret
      exact ⟨by rw [hv.out]; rfl, rfl⟩
  · have hv := Lib.hid (show lowc c = c by unfold lowc; rw [if_neg (by omega)])
    go_enter Tryz.func186, Tryz.ntmps186
    go_wp2
    go_ret
    exact ⟨by rw [hv.out]; rfl, rfl⟩
def months : List (List UInt8) := [[106, 97, 110], [102, 101, 98], [109, 97, 114], [97, 112, 114], [109, 97, 121], [106, 117, 110], [106, 117, 108], [97, 117, 103], [115, 101, 112], [111, 99, 116], [110, 111, 118], [100, 101, 99], [109, 111, 110], [116, 117, 101], [119, 101, 100], [116, 104, 117], [102, 114, 105], [115, 97, 116], [115, 117, 110]]
def monthB (t : ByteArray) : Bool := decide (3 ≤ t.size) && months.any (fun m => (t.extract 0 3).toList == m)
theorem monthB_true {t : ByteArray} (h : 3 ≤ t.size) {m : List UInt8} (hm : m ∈ months) (he : ((t.extract 0 3).toList == m) = true) : monthB t = true := by
  unfold monthB
  rw [Bool.and_eq_true, List.any_eq_true]
  exact ⟨by simpa using h, m, hm, he⟩
theorem monthB_false {t : ByteArray} (h : ∀ m ∈ months, ((t.extract 0 3).toList == m) = false) : monthB t = false := by
  unfold monthB
  rw [Bool.and_eq_false_iff]
  right
  rw [List.any_eq_false]
  intro m hm
  rw [h m hm]; simp
theorem monthB_short {t : ByteArray} (h : t.size < 3) : monthB t = false := by
  unfold monthB
  have : decide (3 ≤ t.size) = false := by simp; omega
  rw [this]; rfl
set_option maxHeartbeats 1000000 in
theorem month_any (s : ByteArray) (w : World) (hs : s.size ≤ maxLen) :
    Calls Tryz.prog 219 #[.string s] w fun e w' => e = .returned (.bool (monthB s)) ∧ w = w' := by
  unfold maxLen at hs
  by_cases h : s.size < 3
  · have hv := Lib.hid (monthB_short h)
    go_enter Tryz.func219, Tryz.ntmps219
    go_wp2
    go_ret
    exact ⟨by rw [hv.out]; rfl, rfl⟩
  · have h' : 3 ≤ s.size := by omega
    clear h
    by_cases e0 : ((s.extract 0 3).toList == [106, 97, 110]) = true
    · have hv := Lib.hid (monthB_true h' (by simp [months]) e0)
      go_enter Tryz.func219, Tryz.ntmps219
      go_wp2
      go_ret
      exact ⟨by rw [hv.out]; rfl, rfl⟩
    rw [Bool.not_eq_true] at e0
    by_cases e1 : ((s.extract 0 3).toList == [102, 101, 98]) = true
    · have hv := Lib.hid (monthB_true h' (by simp [months]) e1)
      go_enter Tryz.func219, Tryz.ntmps219
      go_wp2
      go_ret
      exact ⟨by rw [hv.out]; rfl, rfl⟩
    rw [Bool.not_eq_true] at e1
    by_cases e2 : ((s.extract 0 3).toList == [109, 97, 114]) = true
    · have hv := Lib.hid (monthB_true h' (by simp [months]) e2)
      go_enter Tryz.func219, Tryz.ntmps219
      go_wp2
      go_ret
      exact ⟨by rw [hv.out]; rfl, rfl⟩
    rw [Bool.not_eq_true] at e2
    by_cases e3 : ((s.extract 0 3).toList == [97, 112, 114]) = true
    · have hv := Lib.hid (monthB_true h' (by simp [months]) e3)
      go_enter Tryz.func219, Tryz.ntmps219
      go_wp2
      go_ret
      exact ⟨by rw [hv.out]; rfl, rfl⟩
    rw [Bool.not_eq_true] at e3
    by_cases e4 : ((s.extract 0 3).toList == [109, 97, 121]) = true
    · have hv := Lib.hid (monthB_true h' (by simp [months]) e4)
      go_enter Tryz.func219, Tryz.ntmps219
      go_wp2
      go_ret
      exact ⟨by rw [hv.out]; rfl, rfl⟩
    rw [Bool.not_eq_true] at e4
    by_cases e5 : ((s.extract 0 3).toList == [106, 117, 110]) = true
    · have hv := Lib.hid (monthB_true h' (by simp [months]) e5)
      go_enter Tryz.func219, Tryz.ntmps219
      go_wp2
      go_ret
      exact ⟨by rw [hv.out]; rfl, rfl⟩
    rw [Bool.not_eq_true] at e5
    by_cases e6 : ((s.extract 0 3).toList == [106, 117, 108]) = true
    · have hv := Lib.hid (monthB_true h' (by simp [months]) e6)
      go_enter Tryz.func219, Tryz.ntmps219
      go_wp2
      go_ret
      exact ⟨by rw [hv.out]; rfl, rfl⟩
    rw [Bool.not_eq_true] at e6
    by_cases e7 : ((s.extract 0 3).toList == [97, 117, 103]) = true
    · have hv := Lib.hid (monthB_true h' (by simp [months]) e7)
      go_enter Tryz.func219, Tryz.ntmps219
      go_wp2
      go_ret
      exact ⟨by rw [hv.out]; rfl, rfl⟩
    rw [Bool.not_eq_true] at e7
    by_cases e8 : ((s.extract 0 3).toList == [115, 101, 112]) = true
    · have hv := Lib.hid (monthB_true h' (by simp [months]) e8)
      go_enter Tryz.func219, Tryz.ntmps219
      go_wp2
      go_ret
      exact ⟨by rw [hv.out]; rfl, rfl⟩
    rw [Bool.not_eq_true] at e8
    by_cases e9 : ((s.extract 0 3).toList == [111, 99, 116]) = true
    · have hv := Lib.hid (monthB_true h' (by simp [months]) e9)
      go_enter Tryz.func219, Tryz.ntmps219
      go_wp2
      go_ret
      exact ⟨by rw [hv.out]; rfl, rfl⟩
    rw [Bool.not_eq_true] at e9
    by_cases e10 : ((s.extract 0 3).toList == [110, 111, 118]) = true
    · have hv := Lib.hid (monthB_true h' (by simp [months]) e10)
      go_enter Tryz.func219, Tryz.ntmps219
      go_wp2
      go_ret
      exact ⟨by rw [hv.out]; rfl, rfl⟩
    rw [Bool.not_eq_true] at e10
    by_cases e11 : ((s.extract 0 3).toList == [100, 101, 99]) = true
    · have hv := Lib.hid (monthB_true h' (by simp [months]) e11)
      go_enter Tryz.func219, Tryz.ntmps219
      go_wp2
      go_ret
      exact ⟨by rw [hv.out]; rfl, rfl⟩
    rw [Bool.not_eq_true] at e11
    by_cases e12 : ((s.extract 0 3).toList == [109, 111, 110]) = true
    · have hv := Lib.hid (monthB_true h' (by simp [months]) e12)
      go_enter Tryz.func219, Tryz.ntmps219
      go_wp2
      go_ret
      exact ⟨by rw [hv.out]; rfl, rfl⟩
    rw [Bool.not_eq_true] at e12
    by_cases e13 : ((s.extract 0 3).toList == [116, 117, 101]) = true
    · have hv := Lib.hid (monthB_true h' (by simp [months]) e13)
      go_enter Tryz.func219, Tryz.ntmps219
      go_wp2
      go_ret
      exact ⟨by rw [hv.out]; rfl, rfl⟩
    rw [Bool.not_eq_true] at e13
    by_cases e14 : ((s.extract 0 3).toList == [119, 101, 100]) = true
    · have hv := Lib.hid (monthB_true h' (by simp [months]) e14)
      go_enter Tryz.func219, Tryz.ntmps219
      go_wp2
      go_ret
      exact ⟨by rw [hv.out]; rfl, rfl⟩
    rw [Bool.not_eq_true] at e14
    by_cases e15 : ((s.extract 0 3).toList == [116, 104, 117]) = true
    · have hv := Lib.hid (monthB_true h' (by simp [months]) e15)
      go_enter Tryz.func219, Tryz.ntmps219
      go_wp2
      go_ret
      exact ⟨by rw [hv.out]; rfl, rfl⟩
    rw [Bool.not_eq_true] at e15
    by_cases e16 : ((s.extract 0 3).toList == [102, 114, 105]) = true
    · have hv := Lib.hid (monthB_true h' (by simp [months]) e16)
      go_enter Tryz.func219, Tryz.ntmps219
      go_wp2
      go_ret
      exact ⟨by rw [hv.out]; rfl, rfl⟩
    rw [Bool.not_eq_true] at e16
    by_cases e17 : ((s.extract 0 3).toList == [115, 97, 116]) = true
    · have hv := Lib.hid (monthB_true h' (by simp [months]) e17)
      go_enter Tryz.func219, Tryz.ntmps219
      go_wp2
      go_ret
      exact ⟨by rw [hv.out]; rfl, rfl⟩
    rw [Bool.not_eq_true] at e17
    by_cases e18 : ((s.extract 0 3).toList == [115, 117, 110]) = true
    · have hv := Lib.hid (monthB_true h' (by simp [months]) e18)
      go_enter Tryz.func219, Tryz.ntmps219
      go_wp2
      go_ret
      exact ⟨by rw [hv.out]; rfl, rfl⟩
    rw [Bool.not_eq_true] at e18
    have hv := Lib.hid (monthB_false (t := s) (by simp only [months, List.forall_mem_cons, List.forall_mem_nil, and_true]; exact ⟨e0, e1, e2, e3, e4, e5, e6, e7, e8, e9, e10, e11, e12, e13, e14, e15, e16, e17, e18, by simp⟩))
    go_enter Tryz.func219, Tryz.ntmps219
    go_wp2
    go_ret
    exact ⟨by rw [hv.out]; rfl, rfl⟩
/-- The bytes of a text in small letters. -/
def lowN (s : ByteArray) (j : Nat) : Int := ((s.data.toList.getD j 0).toNat : Int)
def lowerN (s : ByteArray) : List Int := (List.range s.size).map fun j => lowc (lowN s j)
def lowerS (s : ByteArray) : ByteArray := strOfNums (lowerN s)
theorem lowerN_length (s : ByteArray) : (lowerN s).length = s.size := by simp [lowerN]
theorem lowerS_size (s : ByteArray) : (lowerS s).size = s.size := by rw [lowerS, strOfNums_size, lowerN_length]
theorem lowN_range (s : ByteArray) (j : Nat) : 0 ≤ lowN s j ∧ lowN s j ≤ 255 := by unfold lowN; have := (s.data.toList.getD j 0).toNat_lt; omega
def LowRel (s : ByteArray) (w : World) (k : Nat) (wr : World) : Prop :=
  (∀ j, j < s.size → wr.cell? ⟨w.heap.size, j, none⟩ = some (.int .u8 (if j < k then lowc (lowN s j) else lowN s j)) ∧ wr.frozen? ⟨w.heap.size, j, none⟩ = false) ∧ w.heap.size < wr.heap.size ∧ Fr w wr
theorem low_start (s : ByteArray) (w : World) : LowRel s w 0 (Lib.bytesWorld w 5 s) := by
  refine ⟨fun j hj => ⟨?_, ?_⟩, ?_, ?_⟩
  · rw [Lib.bytesWorld_cell w _ s j hj]; rfl
  · have h2 : s.size ≤ (Lib.bytesCells w 5 s).size := by
      unfold Lib.bytesCells
      rw [Array.size_append, Array.size_map]
      exact Nat.le_add_right _ _
    simp [World.frozen?, Lib.bytesWorld_at_new]
    omega
  · rw [Lib.bytesWorld_size]; omega
  · exact ⟨rfl, rfl, rfl, by rw [Lib.bytesWorld_size]; omega, fun i hi => Lib.bytesWorld_at_old w _ s i hi⟩
theorem low_step {s : ByteArray} {w wr : World} (k : Nat) (hk : k < s.size) (h : LowRel s w k wr) :
    LowRel s w (k + 1) (wr.setCell ⟨w.heap.size, k, none⟩ (.int .u8 (lowc (lowN s k)))) := by
  obtain ⟨hc, hz, hf⟩ := h
  refine ⟨fun j hj => ⟨?_, ?_⟩, by simpa [World.setCell] using hz, Fr.set (Nat.le_refl _) hf _⟩
  · obtain ⟨hcj, _⟩ := hc j hj
    by_cases e : j = k
    · subst e
      rw [if_pos (by omega)]
      exact World.cell?_setCell_same _ _ _ hcj
    · have e2 : (j < k + 1) = (j < k) := by rw [eq_iff_iff]; omega
      simp only [e2]
      rw [← hcj]
      exact World.cell?_setCell_other _ _ _ _ (fun h => e (by injection h with _ h2; exact h2.symm))
  · rw [← (hc j hj).2]
    exact World.frozen?_setCell _ _ _ _
theorem low_end {s : ByteArray} {w wr : World} (h : LowRel s w s.size wr) (i : Nat) (hi : i < s.size) : wr.cell? ⟨w.heap.size, 0 + i, none⟩ = some (.int .u8 ((lowerN s).getD i 0)) := by
  rw [Nat.zero_add, (h.1 i hi).1, if_pos hi]
  simp [lowerN, hi]
set_option maxRecDepth 100000 in
set_option maxHeartbeats 1000000 in
theorem lower_any (s : ByteArray) (w : World) (hs : s.size ≤ maxLen) :
    Calls Tryz.prog 162 #[.string s] w fun e w' => e = .returned (.string (lowerS s)) ∧ Fr w w' := by
  unfold maxLen at hs
  have kb := fun W => Lib.run_convert_string_bytes (P := Tryz.prog) W 9 145 5 s Tryz.underlying9 Tryz.underlying145 Tryz.underlying5
  have hst := Lib.hid (low_start s w)
  go_enter Tryz.func162, Tryz.ntmps162
  go_wp2
  generalize Lib.bytesWorld w 5 s = W1 at *
  generalize grownCap w s.size 0 5 = cap
  go_loopw [4] (fun i wr => ∃ k : Nat, k ≤ s.size ∧ i = .int .i64 k ∧ LowRel s w k wr) (fun i _ => s.size - (intOf i).toNat)
  case atStart => exact ⟨0, Nat.zero_le _, rfl, hst.out⟩
  case round =>
    obtain ⟨k, hk, rfl, hrel⟩ := hrel
    have Hr := Lib.hid hrel; clear hrel hst
    by_cases hlt : k < s.size
    · obtain ⟨hck, hfk⟩ := Hr.out.1 k hlt
      rw [if_neg (by omega)] at hck
      obtain ⟨hr1, hr2⟩ := lowN_range s k
      have hN := Lib.hid (low_step k hlt Hr.out)
      generalize lowN s k = c at *
      clear kb
      go_wp2_with fail
      refine (Lower_any c _ hr1 hr2).mono ?_
      rintro e w1 ⟨rfl, rfl⟩
      go_wp2
      go_roundw
      case rel => exact ⟨k + 1, by omega, by go_num, hN.out⟩
      case measure => simp [intOf]; omega
    · have e : k = s.size := by omega
      subst e
      have kc := run_convert_bytes_arg (P := Tryz.prog) wr 145 5 Tryz.underlying145 Tryz.underlying5 w.heap.size 0 s.size cap (lowerN s) (lowerN_length s) (low_end Hr.out) 9 Tryz.underlying9
      clear kb
      go_wp2
      go_ret
      exact ⟨rfl, Hr.out.2.2⟩
end Go.Proofs.YtnpnclhjfemldaaGreatDoor
