import Derived.Test.YtollahofgcabpaaGreatDoorS27
set_option linter.unusedSimpArgs false
set_option linter.unusedVariables false
namespace Go.Proofs.YtollahofgcabpaaGreatDoor
open Go.RowKit
open Fl
open Ieee (double)
def ovT (v : SVal) : IVal := txI v.t
theorem asc_lt {s : ByteArray} (ha : asc s.data.toList = true) : ∀ i, ∀ h : i < s.size, (s[i]'h).toNat < 128 := by
  intro i h
  by_cases hb : ascB s[i] = false
  · rw [asc_bad s i h hb] at ha; exact absurd ha (by simp)
  · have hb : ascB s[i] = true := by simpa using hb
    rw [ascB_iff] at hb
    have := of_decide_eq_true hb
    omega
theorem of_txts {l : List SVal} (hl : ∀ x ∈ l, x = tx x.t) : ∀ x ∈ l, ∀ w, Calls Tryz.prog 18 #[x.v] w fun e w' => e = .returned (ovT x).v ∧ Fr w w' := by
  intro x hx w
  rw [hl x hx]
  exact of_text x.t w
theorem one_tx (s : ByteArray) : ∀ x ∈ [tx s], x = tx x.t := by intro x hx; simp at hx; subst hx; rfl
theorem one_txI (s : ByteArray) : ∀ x ∈ [txI s], x = txI x.t := by intro x hx; simp at hx; subst hx; rfl
theorem TL.new (w : World) (s : ByteArray) (t : TypeId) (g : Nat) (hg : g = w.heap.size) : TL (w.alloc (.cells #[.string s] t)) (some ⟨g, 0, none⟩) [s] := by
  subst hg
  refine ⟨by simp, fun _ => ⟨_, rfl, by simp, fun i x hx => ?_⟩⟩
  have hi : i = 0 := by have := (List.getElem?_eq_some_iff.1 hx).1; simp at this; exact this
  subst hi
  simp at hx; subst hx
  simp [go_sem]
end Go.Proofs.YtollahofgcabpaaGreatDoor
