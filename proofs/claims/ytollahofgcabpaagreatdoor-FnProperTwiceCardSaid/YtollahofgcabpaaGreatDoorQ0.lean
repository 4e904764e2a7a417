import Derived.Test.YtollahofgcabpaaGreatDoorT1
set_option linter.unusedSimpArgs false
set_option linter.unusedVariables false
/- PROPER over bytes, in plain words; twice is once. -/
namespace Go.Proofs.YtollahofgcabpaaGreatDoor
def isL (c : UInt8) : Bool := (65 ≤ c && c ≤ 90) || (97 ≤ c && c ≤ 122)
def upB (c : UInt8) : UInt8 := if 97 ≤ c && c ≤ 122 then c - 32 else c
def lowB (c : UInt8) : UInt8 := if 65 ≤ c && c ≤ 90 then c + 32 else c
def propB (il : Bool) (c : UInt8) : UInt8 := if !il && isL c then upB c else lowB c
def prop : Bool → List UInt8 → List UInt8
  | _, [] => []
  | il, c :: cs => propB il c :: prop (isL c) cs
theorem propB_all : ∀ k : Fin 256, ∀ il : Bool, isL (propB il (UInt8.ofNat k.val)) = isL (UInt8.ofNat k.val) ∧ propB il (propB il (UInt8.ofNat k.val)) = propB il (UInt8.ofNat k.val) ∧
    (ascB (UInt8.ofNat k.val) = true → ascB (propB il (UInt8.ofNat k.val)) = true) := by decide +kernel
theorem propB_at (il : Bool) (c : UInt8) : isL (propB il c) = isL c ∧ propB il (propB il c) = propB il c ∧ (ascB c = true → ascB (propB il c) = true) := by
  have := propB_all ⟨c.toNat, c.toNat_lt⟩ il
  simpa using this
theorem prop_twice (il : Bool) (l : List UInt8) : prop il (prop il l) = prop il l := by
  induction l generalizing il with
  | nil => rfl
  | cons c cs ih => simp only [prop]; rw [(propB_at il c).1, (propB_at il c).2.1, ih]
theorem prop_asc (il : Bool) (l : List UInt8) (h : asc l = true) : asc (prop il l) = true := by
  induction l generalizing il with
  | nil => rfl
  | cons c cs ih =>
    simp only [asc, List.all_cons, Bool.and_eq_true, prop] at h ⊢
    exact ⟨(propB_at il c).2.2 h.1, ih _ h.2⟩
theorem prop_length (il : Bool) (l : List UInt8) : (prop il l).length = l.length := by
  induction l generalizing il with
  | nil => rfl
  | cons c cs ih => simp [prop, ih]
/-- Whether the byte ahead of place k is a letter. -/
def ilAt (il : Bool) (l : List UInt8) : Nat → Bool
  | 0 => il
  | k + 1 => isL (l.getD k 0)
theorem prop_at (il : Bool) (l : List UInt8) (k : Nat) (h : k < l.length) : (prop il l)[k]? = some (propB (ilAt il l k) l[k]) := by
  induction l generalizing il k with
  | nil => simp at h
  | cons c cs ih =>
    cases k with
    | zero => rfl
    | succ k =>
      simp only [prop, List.getElem?_cons_succ, List.getElem_cons_succ]
      rw [ih (isL c) k (by simpa using h)]
      cases k with
      | zero => rfl
      | succ k => simp [ilAt]
theorem prop_take (l : List UInt8) (k : Nat) (h : k < l.length) : (prop false l).take (k + 1) = (prop false l).take k ++ [propB (ilAt false l k) l[k]] := by
  rw [List.take_add_one, prop_at false l k h]; rfl
/-- PROPER of a text. -/
def propT (s : ByteArray) : ByteArray := ⟨(prop false s.data.toList).toArray⟩
theorem propT_list (s : ByteArray) : (propT s).data.toList = prop false s.data.toList := by simp [propT]
theorem propT_twice (s : ByteArray) : propT (propT s) = propT s := by
  unfold propT; simp [prop_twice]
theorem propT_size (s : ByteArray) : (propT s).size = s.size := by
  show (propT s).data.size = s.data.size
  rw [← Array.length_toList, propT_list, prop_length, Array.length_toList]
theorem propT_asc (s : ByteArray) (h : asc s.data.toList = true) : asc (propT s).data.toList = true := by rw [propT_list]; exact prop_asc _ _ h
/-- The two cases in the code's numbers. -/
theorem upB_int (c : UInt8) : ((upB c).toNat : Int) = if 97 ≤ (c.toNat : Int) ∧ (c.toNat : Int) ≤ 122 then (c.toNat : Int) - 32 else c.toNat := by
  have : ∀ k : Fin 256, ((upB (UInt8.ofNat k.val)).toNat : Int) = if 97 ≤ (k.val : Int) ∧ (k.val : Int) ≤ 122 then (k.val : Int) - 32 else k.val := by decide +kernel
  have := this ⟨c.toNat, c.toNat_lt⟩
  simpa using this
theorem lowB_int (c : UInt8) : ((lowB c).toNat : Int) = if 65 ≤ (c.toNat : Int) ∧ (c.toNat : Int) ≤ 90 then (c.toNat : Int) + 32 else c.toNat := by
  have : ∀ k : Fin 256, ((lowB (UInt8.ofNat k.val)).toNat : Int) = if 65 ≤ (k.val : Int) ∧ (k.val : Int) ≤ 90 then (k.val : Int) + 32 else k.val := by decide +kernel
  have := this ⟨c.toNat, c.toNat_lt⟩
  simpa using this
end Go.Proofs.YtollahofgcabpaaGreatDoor
