import Derived.Test.YtollahofgcabpaaGreatDoorT1
set_option linter.unusedSimpArgs false
set_option linter.unusedVariables false
namespace Go.Proofs.YtollahofgcabpaaGreatDoor
open Go.RowKit
/-- A call's frame: nothing that was there has turned. -/
def Fr (w w' : World) : Prop := Below w.heap.size w w'
theorem Fr.refl (w : World) : Fr w w := Below.refl _ _
theorem Fr.alloc {w W : World} (h : Fr w W) (o : Obj) : Fr w (W.alloc o) := Below.alloc h (Below.size h) o
theorem Fr.drew {w W : World} (h : Fr w W) : Fr w W.drew := Below.drew h
theorem Fr.step {w W W' : World} (h : Fr w W) (k : Fr W W') : Fr w W' :=
  Below.trans h ⟨k.os, k.tape, k.output, k.size, fun i hi => k.block i (Nat.lt_of_lt_of_le hi h.size)⟩
theorem Fr.set {w W : World} {p : Addr} (hp : w.heap.size ≤ p.block) (h : Fr w W) (u : Value) : Fr w (W.setCell p u) := Below.setCell h hp u
theorem Fr.grown {w W W' : World} (h : Fr w W) {row : Option Nat} (hg : W.grownBy W' row) (hr : ∀ k, row = some k → w.heap.size ≤ k) : Fr w W' := Below.grown h hg h.size hr
theorem Fr.drewN {w W : World} (h : Fr w W) (n : Nat) : Fr w (W.drewN n) := ⟨h.os, h.tape, h.output, h.size, h.block⟩
theorem Fr.of {w w' : World} (h : Below w.heap.size w w') : Fr w w' := h
/-- What the walk takes as rules behind a call. -/
theorem Fr.cells {W w1 : World} (hb : Fr W w1) : (∀ b o, b < W.heap.size → w1.cell? ⟨b, o, none⟩ = W.cell? ⟨b, o, none⟩) ∧ (∀ b o, b < W.heap.size → w1.frozen? ⟨b, o, none⟩ = W.frozen? ⟨b, o, none⟩) :=
  ⟨fun b o h => hb.cell (p := ⟨b, o, none⟩) h, fun b o h => hb.frozen (p := ⟨b, o, none⟩) h⟩

/-- A value of the reference without rows. -/
def sv (k n d : Int) (s : ByteArray) : Value := .agg #[.int .i64 k, .int .i64 n, .int .i64 d, .string s, .slice none 0 0]
def mt : ByteArray := ⟨#[]⟩
set_option maxHeartbeats 400000 in
theorem Str_any (s : ByteArray) (w : World) :
    Calls Tryz.prog 8 #[.string s] w fun e w' => e = .returned (sv 2 0 0 s) ∧ Fr w w' := by
  go_enter Tryz.func8, Tryz.ntmps8
  go_wp2
  exact bodyPost_ret (v := sv 2 0 0 s) (by simp [results, Tryz.results8, go_sem, sv]) rfl ⟨rfl, (Fr.refl _).alloc _⟩
end Go.Proofs.YtollahofgcabpaaGreatDoor
