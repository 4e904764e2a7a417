import Derived.Test.YtlhonpmpchkkfaaGreatDoorGA
import Derived.Lib.LaidCaseMet
import Derived.Deep.AppendLies
import Derived.Test.YtlhonpmpchkkfaaGreatDoorGE
import Derived.Deep.RegionHeld3
set_option linter.unusedSimpArgs false
set_option linter.unusedVariables false
/- Rows that lie in blocks of their own, rows of rows, and rows that a call builds: what a grown world leaves of them. Plain words; no function of the program. -/
namespace Go.Proofs.YtlhonpmpchkkfaaGreatDoor
open Go.RowKit
/-- What is said of an element that is laid as some cells, with what lies behind it in blocks of S. -/
abbrev Say (α : Type) := World → (Nat → Prop) → α → List Value → Prop
structure Lie {α : Type} (E : Say α) : Prop where
  same : ∀ {w w' : World} {S : Nat → Prop} {x : α} {c : List Value}, E w S x c → (∀ b, S b → b < w.heap.size → w'.heap[b]? = w.heap[b]?) → E w' S x c
  cut : ∀ {w : World} {S : Nat → Prop} {x : α} {c : List Value}, E w S x c → E w (fun b => S b ∧ b < w.heap.size) x c
  mono : ∀ {w : World} {S S' : Nat → Prop} {x : α} {c : List Value}, E w S x c → (∀ b, S b → S' b) → E w S' x c
/-- A row in the block g, from the cell o on, sz cells an element. -/
def RowOf {α : Type} (E : Say α) (sz : Nat) (w : World) (S : Nat → Prop) (g o : Nat) (xs : List α) : Prop :=
  ∃ c t z, w.heap[g]? = some (.cells c t z) ∧ S g ∧ ∀ (i : Nat) (x : α), xs[i]? = some x → ∃ cs : List Value, E w S x cs ∧ ∀ (j : Nat) (u : Value), cs[j]? = some u → c[o + (i * sz + j)]? = some u
theorem block_lt {w : World} {g : Nat} {o : Obj} (h : w.heap[g]? = some o) : g < w.heap.size := (Array.getElem?_eq_some_iff.1 h).1
theorem RowOf.lt {α : Type} {E : Say α} {sz : Nat} {w : World} {S : Nat → Prop} {g o : Nat} {xs : List α} (h : RowOf E sz w S g o xs) : g < w.heap.size := by
  obtain ⟨c, t, z, hg, _⟩ := h; exact block_lt hg
theorem RowOf.in {α : Type} {E : Say α} {sz : Nat} {w : World} {S : Nat → Prop} {g o : Nat} {xs : List α} (h : RowOf E sz w S g o xs) : S g := by
  obtain ⟨c, t, z, _, hS, _⟩ := h; exact hS
theorem RowOf.same {α : Type} {E : Say α} (L : Lie E) {sz : Nat} {w w' : World} {S : Nat → Prop} {g o : Nat} {xs : List α} (h : RowOf E sz w S g o xs) (hw : ∀ b, S b → b < w.heap.size → w'.heap[b]? = w.heap[b]?) : RowOf E sz w' S g o xs := by
  obtain ⟨c, t, z, hg, hS, he⟩ := h
  refine ⟨c, t, z, (hw g hS (block_lt hg)).trans hg, hS, fun i x hx => ?_⟩
  obtain ⟨cs, h1, h2⟩ := he i x hx
  exact ⟨cs, L.same h1 hw, h2⟩
theorem RowOf.fr {α : Type} {E : Say α} (L : Lie E) {sz : Nat} {w w' : World} {S : Nat → Prop} {g o : Nat} {xs : List α} (h : RowOf E sz w S g o xs) (hf : Fr w w') : RowOf E sz w' S g o xs :=
  h.same L fun b _ hb => hf.block b hb
theorem RowOf.set {α : Type} {E : Say α} (L : Lie E) {sz : Nat} {w : World} {S : Nat → Prop} {g o : Nat} {xs : List α} (h : RowOf E sz w S g o xs) (a : Addr) (v : Value) (hS : ∀ b, S b → b ≠ a.block) : RowOf E sz (w.setCell a v) S g o xs :=
  h.same L fun b hb _ => Below.heap_setCell _ _ _ _ (hS b hb)
theorem RowOf.low {α : Type} {E : Say α} (L : Lie E) {sz : Nat} {w : World} {B : Nat} {g o : Nat} {xs : List α} (h : RowOf E sz w (fun b => B ≤ b) g o xs) (a : Addr) (v : Value) (ha : a.block < B) : RowOf E sz (w.setCell a v) (fun b => B ≤ b) g o xs :=
  h.set L a v fun b (hb : B ≤ b) => by omega
theorem RowOf.cut {α : Type} {E : Say α} (L : Lie E) {sz : Nat} {w : World} {S : Nat → Prop} {g o : Nat} {xs : List α} (h : RowOf E sz w S g o xs) : RowOf E sz w (fun b => S b ∧ b < w.heap.size) g o xs := by
  obtain ⟨c, t, z, hg, hS, he⟩ := h
  refine ⟨c, t, z, hg, ⟨hS, block_lt hg⟩, fun i x hx => ?_⟩
  obtain ⟨cs, h1, h2⟩ := he i x hx
  exact ⟨cs, L.cut h1, h2⟩
theorem RowOf.mono {α : Type} {E : Say α} (L : Lie E) {sz : Nat} {w : World} {S S' : Nat → Prop} {g o : Nat} {xs : List α} (h : RowOf E sz w S g o xs) (hs : ∀ b, S b → S' b) : RowOf E sz w S' g o xs := by
  obtain ⟨c, t, z, hg, hS, he⟩ := h
  refine ⟨c, t, z, hg, hs _ hS, fun i x hx => ?_⟩
  obtain ⟨cs, h1, h2⟩ := he i x hx
  exact ⟨cs, L.mono h1 hs, h2⟩
theorem RowOf.at {α : Type} {E : Say α} {sz : Nat} {w : World} {S : Nat → Prop} {g o : Nat} {xs : List α} (h : RowOf E sz w S g o xs) {i : Nat} (hi : i < xs.length) :
    ∃ cs, E w S xs[i] cs ∧ ∀ j u, cs[j]? = some u → w.cell? ⟨g, o + (i * sz + j), none⟩ = some u := by
  obtain ⟨c, t, z, hg, hS, he⟩ := h
  obtain ⟨cs, h1, h2⟩ := he i _ (List.getElem?_eq_getElem hi)
  refine ⟨cs, h1, fun j u hu => ?_⟩
  rw [Go.Lib.cell_of_heap hg]; exact h2 j u hu
/-- A number, laid as cs says. -/
def ENum (cs : Int → List Value) : Say Int := fun _ _ n c => c = cs n
/-- A slice of elements. -/
def ESl {α : Type} (E : Say α) (sz : Nat) : Say (List α) := fun w S xs c => ∃ g cap, c = [.slice (some ⟨g, 0, none⟩) xs.length cap] ∧ RowOf E sz w S g 0 xs
/-- A slice behind other cells. -/
def EPre {α : Type} (pre : List Value) (E : Say α) : Say α := fun w S x c => ∃ c', c = pre ++ c' ∧ E w S x c'
theorem lie_num (cs : Int → List Value) : Lie (ENum cs) := ⟨fun h _ => h, fun h => h, fun h _ => h⟩
theorem lie_sl {α : Type} {E : Say α} (L : Lie E) (sz : Nat) : Lie (ESl E sz) :=
  ⟨fun ⟨g, cap, e, h⟩ hw => ⟨g, cap, e, h.same L hw⟩, fun ⟨g, cap, e, h⟩ => ⟨g, cap, e, h.cut L⟩, fun ⟨g, cap, e, h⟩ hs => ⟨g, cap, e, h.mono L hs⟩⟩
theorem lie_pre {α : Type} {E : Say α} (L : Lie E) (pre : List Value) : Lie (EPre pre E) :=
  ⟨fun ⟨c, e, h⟩ hw => ⟨c, e, L.same h hw⟩, fun ⟨c, e, h⟩ => ⟨c, e, L.cut h⟩, fun ⟨c, e, h⟩ hs => ⟨c, e, L.mono h hs⟩⟩
/-- A row that a call builds: what it owns, and what lies behind each element, in blocks that are not the row's. -/
structure OR {α : Type} (E : Say α) (w : World) (base : Nat) (t : TypeId) (sz : Nat) (v : Value) (xs : List α) (css : List (List Value)) : Prop where
  len : css.length = xs.length
  own : w.ownsRow base t sz v xs.length css.flatten
  el : ∀ (i : Nat) (x : α), xs[i]? = some x → ∃ (c : List Value) (S : Nat → Prop), css[i]? = some c ∧ c.length = sz ∧ E w S x c ∧ ∀ b, S b → base ≤ b ∧ some b ≠ v.ownBlock
theorem OR.nil {α : Type} (E : Say α) (w : World) (base : Nat) (t : TypeId) (sz : Nat) : OR E w base t sz (.slice none 0 0) [] [] :=
  ⟨rfl, by simpa using World.ownsRow_nil w base t sz, fun i x h => by simp at h⟩
theorem own_block {w w' : World} {base : Nat} {e : TypeId} {sz : Nat} {v : Value} {n : Nat} {xs : List Value} (h : w.ownsRow base e sz v n xs) (hf : ∀ b, base ≤ b → b < w.heap.size → w'.heap[b]? = w.heap[b]?) : w'.ownsRow base e sz v n xs := by
  refine ⟨h.1, ?_⟩
  rcases h.2 with ⟨rfl, hn⟩ | ⟨g, cap, cur, rfl, hb, hg, hnc, hcm, hcs, htake⟩
  · exact .inl ⟨rfl, hn⟩
  · exact .inr ⟨g, cap, cur, rfl, hb, (hf g hb (block_lt hg)).trans hg, hnc, hcm, hcs, htake⟩
theorem OR.kept {α : Type} {E : Say α} (L : Lie E) {w w' : World} {base : Nat} {t : TypeId} {sz : Nat} {v : Value} {xs : List α} {css : List (List Value)} (h : OR E w base t sz v xs css) (hf : ∀ b, base ≤ b → b < w.heap.size → w'.heap[b]? = w.heap[b]?) : OR E w' base t sz v xs css := by
  refine ⟨h.len, own_block h.own hf, fun i x hx => ?_⟩
  obtain ⟨c, S, h1, h2, h3, h4⟩ := h.el i x hx
  exact ⟨c, S, h1, h2, L.same h3 fun b hs hb => hf b (h4 b hs).1 hb, h4⟩
theorem OR.fr {α : Type} {E : Say α} (L : Lie E) {w w' : World} {base : Nat} {t : TypeId} {sz : Nat} {v : Value} {xs : List α} {css : List (List Value)} (h : OR E w base t sz v xs css) (hf : Fr w w') : OR E w' base t sz v xs css :=
  h.kept L fun b _ hb => hf.block b hb
theorem OR.low {α : Type} {E : Say α} (L : Lie E) {w : World} {base : Nat} {t : TypeId} {sz : Nat} {v : Value} {xs : List α} {css : List (List Value)} (h : OR E w base t sz v xs css) (a : Addr) (u : Value) (ha : a.block < base) : OR E (w.setCell a u) base t sz v xs css :=
  h.kept L fun b hb _ => Below.heap_setCell _ _ _ _ (by omega)
theorem OR.alloc {α : Type} {E : Say α} (L : Lie E) {w : World} {base : Nat} {t : TypeId} {sz : Nat} {v : Value} {xs : List α} {css : List (List Value)} (h : OR E w base t sz v xs css) (o : Obj) : OR E (w.alloc o) base t sz v xs css :=
  h.fr L ((Fr.refl w).alloc o)
theorem OR.lt {α : Type} {E : Say α} {w : World} {base : Nat} {t : TypeId} {sz : Nat} {v : Value} {xs : List α} {css : List (List Value)} (h : OR E w base t sz v xs css) : ∀ k, v.ownBlock = some k → base ≤ k ∧ k < w.heap.size := h.own.lt
/-- One element more: behind the append. -/
theorem OR.push {α : Type} {E : Say α} (L : Lie E) {w w' : World} {base : Nat} {t : TypeId} {sz : Nat} {v : Value} {xs : List α} {css : List (List Value)} {x : α} {c : List Value} {S : Nat → Prop} {g cap H : Nat}
    (h : OR E w base t sz v xs css) (hx : E w S x c) (hc : c.length = sz) (hS : ∀ b, S b → base ≤ b ∧ (b < w.heap.size → some b ≠ v.ownBlock))
    (hown : w'.ownsRow base t sz (.slice (some ⟨g, 0, none⟩) (xs.length + 1) cap) (xs.length + 1) (css.flatten ++ c)) (hgrow : w.grownBy w' v.ownBlock) (hat : v.ownBlock = some g ∨ g = H) (hH : w.heap.size = H) :
    OR E w' base t sz (.slice (some ⟨g, 0, none⟩) (xs.length + 1) cap) (xs ++ [x]) (css ++ [c]) := by
  subst hH
  have hne : ∀ (S : Nat → Prop), (∀ b, S b → b < w.heap.size ∧ some b ≠ v.ownBlock) → ∀ b, S b → some b ≠ (Value.slice (some ⟨g, 0, none⟩) (xs.length + 1) cap).ownBlock := by
    intro S hS b hb e
    obtain ⟨h1, h2⟩ := hS b hb
    simp only [Value.ownBlock, Option.some.injEq] at e
    subst e
    rcases hat with hat | hat
    · exact h2 hat.symm
    · omega
  refine ⟨by simp [h.len], by simpa using hown, fun i y hy => ?_⟩
  by_cases hi : i < xs.length
  · rw [List.getElem?_append_left hi] at hy
    obtain ⟨c1, S1, h1, h2, h3, h4⟩ := h.el i y hy
    have hic : i < css.length := by rw [h.len]; exact hi
    refine ⟨c1, fun b => S1 b ∧ b < w.heap.size, by rw [List.getElem?_append_left hic]; exact h1, h2, L.same (L.cut h3) fun b hb hlt => hgrow.block b hlt (h4 b hb.1).2, fun b hb => ⟨(h4 b hb.1).1, ?_⟩⟩
    exact hne (fun b => S1 b ∧ b < w.heap.size) (fun b hb => ⟨hb.2, (h4 b hb.1).2⟩) b hb
  · have hil : i = xs.length := by
      have := (List.getElem?_eq_some_iff.1 hy).1
      simp at this; omega
    subst hil
    rw [List.getElem?_append_right (Nat.le_refl _)] at hy
    simp at hy
    subst hy
    refine ⟨c, fun b => S b ∧ b < w.heap.size, by rw [← h.len, List.getElem?_append_right (Nat.le_refl _)]; simp, hc, L.same (L.cut hx) fun b hb hlt => hgrow.block b hlt ((hS b hb.1).2 hlt), fun b hb => ⟨(hS b hb.1).1, ?_⟩⟩
    exact hne (fun b => S b ∧ b < w.heap.size) (fun b hb => ⟨hb.2, (hS b hb.1).2 hb.2⟩) b hb
theorem flatten_at {css : List (List Value)} {sz : Nat} (hs : ∀ c ∈ css, c.length = sz) {i j : Nat} {c : List Value} {u : Value} (hc : css[i]? = some c) (hu : c[j]? = some u) : css.flatten[i * sz + j]? = some u := by
  induction css generalizing i with
  | nil => simp at hc
  | cons d l ih =>
    have hd : d.length = sz := hs d (by simp)
    rw [List.flatten_cons]
    match i with
    | 0 =>
      simp at hc; subst hc
      have := (List.getElem?_eq_some_iff.1 hu).1
      rw [List.getElem?_append_left (by omega)]
      simpa using hu
    | i + 1 =>
      rw [List.getElem?_append_right (by rw [hd, Nat.succ_mul]; omega)]
      have : (i + 1) * sz + j - d.length = i * sz + j := by rw [hd, Nat.succ_mul]; omega
      rw [this]
      exact ih (fun c hc => hs c (by simp [hc])) (by simpa using hc)
/-- The row that was built, as a row. -/
theorem OR.done {α : Type} {E : Say α} (L : Lie E) {w : World} {base : Nat} {t : TypeId} {sz : Nat} {v : Value} {xs : List α} {css : List (List Value)} (h : OR E w base t sz v xs css) (hn : 0 < xs.length) :
    ∃ g cap, v = .slice (some ⟨g, 0, none⟩) xs.length cap ∧ RowOf E sz w (fun b => base ≤ b) g 0 xs := by
  rcases h.own.2 with ⟨_, h0⟩ | ⟨g, cap, cur, rfl, hb, hg, hnc, hcm, hcs, htake⟩
  · omega
  · refine ⟨g, cap, rfl, cur, t, _, hg, hb, fun i x hx => ?_⟩
    obtain ⟨c, S, h1, h2, h3, h4⟩ := h.el i x hx
    refine ⟨c, L.mono h3 fun b hb => (h4 b hb).1, fun j u hu => ?_⟩
    have hs : ∀ c ∈ css, c.length = sz := by
      intro c' hc'
      obtain ⟨k, hk, rfl⟩ := List.mem_iff_getElem.1 hc'
      have hk2 : k < xs.length := by rw [← h.len]; exact hk
      obtain ⟨c2, _, h5, h6, _⟩ := h.el k _ (List.getElem?_eq_getElem hk2)
      rw [List.getElem?_eq_getElem hk] at h5
      injection h5 with h5
      rw [h5]; exact h6
    have hf := flatten_at hs h1 hu
    rw [← htake] at hf
    have hj : j < sz := by have := (List.getElem?_eq_some_iff.1 hu).1; omega
    rw [List.getElem?_take] at hf
    split at hf
    · simpa using hf
    · cases hf
theorem OR.row {α : Type} {E : Say α} (L : Lie E) {w : World} {base : Nat} {t : TypeId} {sz : Nat} {g n cap : Nat} {xs : List α} {css : List (List Value)} (h : OR E w base t sz (.slice (some ⟨g, 0, none⟩) n cap) xs css) (hn : 0 < xs.length) :
    RowOf E sz w (fun b => base ≤ b) g 0 xs := by
  obtain ⟨g', cap', e, hr⟩ := h.done L hn
  simp only [Value.slice.injEq, Option.some.injEq, Addr.mk.injEq, and_true, true_and] at e
  obtain ⟨rfl, _, _⟩ := e
  exact hr
/-- The same where the row is a list's beginning. -/
theorem OR.next {α : Type} {E : Say α} (L : Lie E) {w w' : World} {base : Nat} {t : TypeId} {sz : Nat} {v : Value} {ys : List α} {k : Nat} {css : List (List Value)} {c : List Value} {S : Nat → Prop} {g cap H : Nat} (hk : k < ys.length)
    (h : OR E w base t sz v (ys.take k) css) (hx : E w S ys[k] c) (hc : c.length = sz) (hS : ∀ b, S b → base ≤ b ∧ (b < w.heap.size → some b ≠ v.ownBlock))
    (hown : w'.ownsRow base t sz (.slice (some ⟨g, 0, none⟩) (k + 1) cap) (k + 1) (css.flatten ++ c)) (hgrow : w.grownBy w' v.ownBlock) (hat : v.ownBlock = some g ∨ g = H) (hH : w.heap.size = H) :
    OR E w' base t sz (.slice (some ⟨g, 0, none⟩) (k + 1) cap) (ys.take (k + 1)) (css ++ [c]) := by
  have hl : (ys.take k).length = k := by rw [List.length_take]; omega
  have := h.push L (cap := cap) hx hc hS (by rw [hl]; exact hown) hgrow hat hH
  rwa [hl, ← List.take_succ_eq_append_getElem hk] at this
theorem OR.take {α : Type} {E : Say α} {w : World} {base : Nat} {t : TypeId} {sz : Nat} {v : Value} {xs : List α} {css : List (List Value)} {k : Nat} (h : OR E w base t sz v (xs.take k) css) (hk : k ≤ xs.length) : w.ownsRow base t sz v k css.flatten := by
  have := h.own
  rwa [List.length_take, Nat.min_eq_left hk] at this
theorem far_set {w : World} {b : Nat} {o : Obj} (h : w.heap[b]? = some o) (a : Addr) (v : Value) (ha : b ≠ a.block) : (w.setCell a v).heap[b]? = some o := (Below.heap_setCell _ _ _ _ ha).trans h
theorem at_new {w : World} {o : Obj} {b : Nat} (hb : b = w.heap.size) : (w.alloc o).heap[b]? = some o := by subst hb; exact heap_alloc_new w o
theorem at_old {w : World} {o x : Obj} {b : Nat} (hb : w.heap[b]? = some x) : (w.alloc o).heap[b]? = some x := (heap_alloc_old w o (block_lt hb)).trans hb
/-- The cells of an element, read out of the block that it was laid in first. -/
theorem news_new {w : World} {cs : Array Value} {t : TypeId} {c : List Value} (hc : cs.toList = c) {B : Nat} (hB : B = w.heap.size) : ∀ j u, c[j]? = some u → (w.alloc (.cells cs t)).cell? ((⟨B, 0, none⟩ : Addr).add j) = some u := by
  subst hc hB
  exact World.news_of_block (heap_alloc_new w _)
end Go.Proofs.YtlhonpmpchkkfaaGreatDoor
/- The columns of FnDot: numbers laid as values of the reference, a row each. -/
namespace Go.Proofs.YtlhonpmpchkkfaaGreatDoor
open Go.RowKit
open Fl
open Ieee (double)
/-- A slice of whole numbers that came in. -/
def ZA (w : World) (A : Option Addr) (l : List Int) : Prop :=
  0 < l.length → ∃ g o, A = some ⟨g, o, none⟩ ∧ g < w.heap.size ∧ ∀ i x, l[i]? = some x → w.cell? ⟨g, o + i, none⟩ = some (.int .i64 x)
theorem ZA.fr {w w' : World} {A : Option Addr} {l : List Int} (h : ZA w A l) (hf : Fr w w') : ZA w' A l := fun hn => by
  obtain ⟨g, o, e, hg, hc⟩ := h hn
  exact ⟨g, o, e, Nat.lt_of_lt_of_le hg hf.size, fun i x hx => (hf.cells.1 _ _ hg).trans (hc i x hx)⟩
theorem ZA.at {w : World} {A : Option Addr} {l : List Int} (h : ZA w A l) {i : Nat} (hi : i < l.length) :
    ∃ g o, A = some ⟨g, o, none⟩ ∧ g < w.heap.size ∧ w.cell? ⟨g, o + i, none⟩ = some (.int .i64 (l.getD i 0)) := by
  obtain ⟨g, o, e, hg, hc⟩ := h (by omega)
  refine ⟨g, o, e, hg, hc i _ ?_⟩
  rw [List.getD_eq_getElem?_getD, List.getElem?_eq_getElem hi]; rfl
/-- A number as a value of the reference, of the program, of the package. -/
def vN (n : Int) : List Value := [.int .i64 1, .int .i64 n, .int .i64 1, .string mt, .slice none 0 0]
def iN (n : Int) : List Value := [.int .i64 1, .float .f64 (fw n), .string mt, .slice none 0 0]
def fN (n : Int) : List Value := [.string mt, .float .f64 (fw n), .string mt, .slice none 0 0, .slice none 0 0, .bool false, .string mt, .int .u8 1, .pointer none, .pointer none]
/-- The numbers of a column: those that came in, less their hundreds; noughts behind the last one. -/
def colN (l : List Int) (n : Nat) : List Int := (List.range n).map fun i => (l.getD i 0).tmod 100
def one (l : List Int) : List (List Int) := l.map fun x => [x]
theorem colN_len (l : List Int) (n : Nat) : (colN l n).length = n := by simp [colN]
theorem colN_at (l : List Int) (n : Nat) {i : Nat} (h : i < n) : (colN l n)[i]'(by rw [colN_len]; exact h) = (l.getD i 0).tmod 100 := by simp [colN]
theorem colN_bound (l : List Int) (n : Nat) : ∀ x ∈ colN l n, x.natAbs ≤ 99 := by
  intro x hx
  obtain ⟨i, _, rfl⟩ := List.mem_map.1 hx
  rw [Int.natAbs_tmod]
  have := Nat.mod_lt (l.getD i 0).natAbs (show 0 < (100 : Int).natAbs by decide)
  have h2 : (100 : Int).natAbs = 100 := rfl
  omega
theorem one_len (l : List Int) : (one l).length = l.length := by simp [one]
theorem take_next {α : Type} {l : List α} {k : Nat} (hk : k < l.length) : l.take (k + 1) = l.take k ++ [l[k]] := List.take_succ_eq_append_getElem hk
theorem Tryz.infoVal2 : (Tryz.prog.info? 25).map (fun i => (i.zero, i.size, i.bytes)) = some (some (sv 0 0 0 mt), 5, 64) := by kernel_rfl
theorem Tryz.infoVals : (Tryz.prog.info? 36).map (fun i => (i.zero, i.size, i.bytes)) = some (some (.slice none 0 0), 1, 24) := by kernel_rfl
theorem oneCells {c : List Value} (h : c.all (fun u => u.oneCell') = true) : ∀ u ∈ c, u.oneCell' = true := List.all_eq_true.1 h
set_option maxRecDepth 100000 in
set_option maxHeartbeats 4000000 in
theorem matrix_any (A : Option Addr) (cap : Nat) (l : List Int) (n : Nat) (w : World) (hv : ZA w A l) (hl : l.length ≤ 9223372036854775807) (h0 : 0 < n) (h30 : n ≤ 30) :
    Calls Tryz.prog 4 #[.slice A l.length cap, .int .i64 n, .int .i64 1] w fun e w' => ∃ g cap', e = .returned (.agg #[.int .i64 5, .int .i64 0, .int .i64 0, .string mt, .slice (some ⟨g, 0, none⟩) n cap']) ∧
      RowOf (ESl (ENum vN) 5) 1 w' (fun b => w.heap.size ≤ b) g 0 (one (colN l n)) ∧ Fr w w' := by
  have Hv := Lib.hid hv; clear hv
  obtain ⟨i0, hi, hz0, hz1, hz2⟩ := info_parts Tryz.infoVal2
  obtain ⟨i1, hj, hy0, hy1, hy2⟩ := info_parts Tryz.infoVals
  obtain ⟨m, hm⟩ : ∃ m, m = l.length := ⟨_, rfl⟩
  have Hm := Lib.hid hm
  rw [← hm] at hl ⊢
  clear hm
  obtain ⟨ys, hys⟩ : ∃ ys, ys = one (colN l n) := ⟨_, rfl⟩
  have Hy := Lib.hid hys
  have Hlen := Lib.hid (show ys.length = n by rw [hys, one_len, colN_len])
  clear hys
  go_enter Tryz.func4, Tryz.ntmps4
  go_wp2
  go_loopw [7, 8] (fun v i wr => ∃ k : Nat, k ≤ n ∧ i = .int .i64 k ∧ (∃ css, OR (ESl (ENum vN) 5) wr (w.heap.size + 1) 36 1 v (ys.take k) css) ∧ Fr (w.alloc (.cells #[.int .i64 0, .int .i64 0, .int .i64 0, .string mt, .slice none 0 0] 25)) wr) (fun _ i _ => n - (intOf i).toNat)
  case atStart => exact ⟨0, Nat.zero_le _, rfl, ⟨_, by simpa using OR.nil _ _ _ _ _⟩, Fr.refl _⟩
  case round =>
    obtain ⟨k, hk, rfl, ⟨css, hor⟩, hf⟩ := hrel
    have Hor := Lib.hid hor; clear hor
    have hfw : Fr w wr := ((Fr.refl w).alloc _).step hf
    have hsz := hf.size
    simp at hsz
    by_cases hlt : k < n
    · have hk30 : (k : Int) < 30 := by omega
      obtain ⟨x, hx⟩ : ∃ x, x = (l.getD k 0).tmod 100 := ⟨_, rfl⟩
      have hyk : k < ys.length := by rw [Hlen.out]; exact hlt
      have Hyk := Lib.hid (show ys[k] = [x] by simp [Hy.out, one, colN, hx])
      have Hts := Lib.hid (take_next hyk)
      have hb : x.natAbs ≤ 99 := by
        have := colN_bound l n (x) (by rw [hx]; exact List.mem_map.2 ⟨k, List.mem_range.2 hlt, rfl⟩)
        exact this
      have Hint := Lib.hid (show intV x = sv 1 x 1 mt by unfold intV; rw [if_neg (by omega)])
      have Hx := Lib.hid hx; clear hx
      go_wp2
      obtain ⟨w0, e0⟩ : ∃ w0, w0 = wr := ⟨_, rfl⟩
      subst e0
      go_loopw [9, 10] (fun r i wi => ((r = .slice none 0 0 ∧ i = .int .i64 0) ∨ (i = .int .i64 1 ∧ ∃ g c, r = .slice (some ⟨g, 0, none⟩) 1 c ∧ RowOf (ENum vN) 5 wi (fun b => w0.heap.size ≤ b) g 0 [x])) ∧ Fr w0 wi) (fun _ i _ => 1 - (intOf i).toNat)
      case atStart => exact ⟨.inl ⟨rfl, rfl⟩, Fr.refl _⟩
      case round =>
        obtain ⟨⟨rfl, rfl⟩ | ⟨rfl, g, c, rfl, hrow⟩, hfi⟩ := hrel
        · by_cases hkm : k < m
          · obtain ⟨g1, o1, rfl, hg1, d1⟩ := Hv.out.at (show k < l.length by rw [← Hm.out]; exact hkm)
            replace d1 := ((hfw.step hfi).cells.1 _ _ hg1).trans d1
            have hg2 : g1 < wr.heap.size := Nat.lt_of_lt_of_le hg1 (hfw.step hfi).size
            generalize l.getD k 0 = z at *
            go_wp2_with fail
            rw [← Hx.out]
            refine (Int_any x _).mono ?_
            rintro e w1 ⟨rfl, hf1⟩
            rw [Hint.out]
            unfold sv
            have hsz1 := hf1.size
            have hszi := hfi.size
            go_wp2_with (at_builtin; refine wpList_append_lies _ rfl _ _ 36 rfl w0.heap.size 25 i0 (sv 0 0 0 mt) 5 64 Tryz.underlying36 hi hz0 hz1 hz2 rfl (by decide) _ _ _ rfl (World.ownsRow_nil _ _ _ _) ⟨w1.heap.size, 0, none⟩ 1 1 (vN x) rfl rfl (news_new rfl rfl) (oneCells rfl) (by decide) (by simp only [maxLen]; omega) (by omega) (by simp; omega) _ rfl ?_)
            intro g2 cap2 w2 hown1 hgrow hat hlt2
            have hrow := ((OR.nil (ENum vN) (w1.alloc (.cells #[.int .i64 1, .int .i64 x, .int .i64 1, .string mt, .slice none 0 0] 25)) w0.heap.size 25 5).push (lie_num vN) (S := fun _ => False) (x := x) (c := vN x) rfl rfl (fun b h => h.elim) hown1 hgrow hat (by simp)).row (lie_num vN) (by simp)
            have hf2 : Fr w0 w2 := ((hfi.step hf1).alloc _).grown hgrow (fun q h => by simp [Value.ownBlock] at h)
            clear hown1 hgrow hat
            go_wp2
            go_roundw
            case rel => exact ⟨.inr ⟨rfl, g2, cap2, rfl, hrow⟩, hf2⟩
            case measure => simp [intOf]
          · have hx0 : x = 0 := by
              rw [Hx.out, List.getD_eq_getElem?_getD, List.getElem?_eq_none (by rw [← Hm.out]; omega)]; rfl
            subst hx0
            go_wp2_with fail
            refine (Int_any 0 _).mono ?_
            rintro e w1 ⟨rfl, hf1⟩
            rw [Hint.out]
            unfold sv
            have hsz1 := hf1.size
            have hszi := hfi.size
            go_wp2_with (at_builtin; refine wpList_append_lies _ rfl _ _ 36 rfl w0.heap.size 25 i0 (sv 0 0 0 mt) 5 64 Tryz.underlying36 hi hz0 hz1 hz2 rfl (by decide) _ _ _ rfl (World.ownsRow_nil _ _ _ _) ⟨w1.heap.size, 0, none⟩ 1 1 (vN 0) rfl rfl (news_new rfl rfl) (oneCells rfl) (by decide) (by simp only [maxLen]; omega) (by omega) (by simp; omega) _ rfl ?_)
            intro g2 cap2 w2 hown1 hgrow hat hlt2
            have hrow := ((OR.nil (ENum vN) (w1.alloc (.cells #[.int .i64 1, .int .i64 0, .int .i64 1, .string mt, .slice none 0 0] 25)) w0.heap.size 25 5).push (lie_num vN) (S := fun _ => False) (x := (0 : Int)) (c := vN 0) rfl rfl (fun b h => h.elim) hown1 hgrow hat (by simp)).row (lie_num vN) (by simp)
            have hf2 : Fr w0 w2 := ((hfi.step hf1).alloc _).grown hgrow (fun q h => by simp [Value.ownBlock] at h)
            clear hown1 hgrow hat
            go_wp2
            go_roundw
            case rel => exact ⟨.inr ⟨rfl, g2, cap2, rfl, hrow⟩, hf2⟩
            case measure => simp [intOf]
        · have hsz0 := hfi.size
          have Hor2 := Lib.hid (Hor.out.fr (lie_sl (lie_num vN) 5) hfi)
          have hkn2 : k ≤ ys.length := Nat.le_of_lt hyk
          go_wp2_with (at_builtin; refine wpList_append_lies _ rfl _ _ 23 rfl (w.heap.size + 1) 36 i1 (.slice none 0 0) 1 24 Tryz.underlying23 hj hy0 hy1 hy2 rfl (by decide) _ _ _ rfl ((Hor2.out.alloc (lie_sl (lie_num vN) 5) _).take hkn2) ⟨wr.heap.size, 0, none⟩ 1 1 [.slice (some ⟨g, 0, none⟩) 1 c] rfl rfl (news_new rfl rfl) (oneCells rfl) (by decide) (by simp only [maxLen]; omega) (by omega) (by simp; omega) _ rfl ?_)
          intro g2 cap2 w2 hown1 hgrow hat hlt2
          have hg0 := hrow.in
          have hor3 := (Hor2.out.alloc (lie_sl (lie_num vN) 5) (.cells #[.slice (some ⟨g, 0, none⟩) 1 c] 36)).next (lie_sl (lie_num vN) 5) (S := fun b => w0.heap.size ≤ b) (c := [.slice (some ⟨g, 0, none⟩) 1 c]) hyk (by rw [Hyk.out]; exact ⟨g, c, rfl, hrow.fr (lie_num vN) ((Fr.refl _).alloc _)⟩) rfl (fun b h => ⟨by omega, fun _ e => by have := (Hor.out.lt _ e.symm).2; omega⟩) hown1 hgrow hat (by simp)
          have hf2 : Fr (w.alloc (.cells #[.int .i64 0, .int .i64 0, .int .i64 0, .string mt, .slice none 0 0] 25)) w2 := ((hf.step hfi).alloc _).grown hgrow (fun q h => by have := (Hor2.out.lt _ h).1; simp; omega)
          clear hown1 hgrow hat
          have Hor3 := Lib.hid hor3; clear hor3
          go_wp2
          go_roundw
          case rel => exact ⟨k + 1, by omega, by simp, ⟨_, Hor3.out⟩, hf2⟩
          case measure => simp [intOf]; omega
    · have hkn : k = n := by omega
      subst hkn
      have hls : ys.take k = ys := by rw [← Hlen.out, List.take_length]
      have hor := Hor.out
      rw [hls] at hor
      obtain ⟨g, c, rfl, hrow⟩ := hor.done (lie_sl (lie_num vN) 5) (by rw [Hlen.out]; exact h0)
      rw [Hlen.out]
      have Hrow := Lib.hid hrow
      clear hrow hor hls Hor
      go_wp2_with fail
      refine (Table_any _ _ _ _).mono ?_
      rintro e w1 ⟨rfl, hf1⟩
      have hf2 := hf.step hf1
      obtain ⟨hc2, hz2'⟩ := hf2.cells
      simp at hc2 hz2'
      have hsz2 := hf2.size
      simp at hsz2
      have hrow2 := (Hrow.out.fr (lie_sl (lie_num vN) 5) hf1)
      clear hf1 Hrow
      go_wp2
      exact bodyPost_ret (v := .agg #[.int .i64 5, .int .i64 0, .int .i64 0, .string mt, .slice (some ⟨g, 0, none⟩) k c]) (by simp [results, Tryz.results4, go_sem, sv, mt, *]) rfl ⟨g, c, rfl, by rw [← Hy.out]; refine RowOf.mono (lie_sl (lie_num vN) 5) (S := fun b => w.heap.size + 1 ≤ b) ?_ (fun b (h : w.heap.size + 1 ≤ b) => by omega); (iterate 5 refine RowOf.low (lie_sl (lie_num vN) 5) ?_ _ _ (by simp)); exact hrow2, (by repeat (first | (with_reducible exact Fr.refl _) | ((with_reducible refine Fr.set ?_ ?_ _); focus (simp; done)) | (with_reducible refine Fr.alloc ?_ _) | (with_reducible refine Fr.drew ?_) | (with_reducible refine Fr.step ?_ (by assumption))))⟩
end Go.Proofs.YtlhonpmpchkkfaaGreatDoor
/- Values of the reference as those of the program: numbers, rows of numbers, matrices. -/
namespace Go.Proofs.YtlhonpmpchkkfaaGreatDoor
open Go.RowKit
open Fl
open Ieee (double)
theorem Lie.fr {α : Type} {E : Say α} (L : Lie E) {w w' : World} {S : Nat → Prop} {x : α} {c : List Value} (h : E w S x c) (hf : Fr w w') : E w' S x c := L.same h fun b _ hb => hf.block b hb
/-- What 'of' makes of an element. -/
def OfC {α : Type} (E E' : Say α) (x : α) : Prop := ∀ (w : World) (S : Nat → Prop) (c : List Value), E w S x c →
  ∃ (k n d : Int) (t : ByteArray) (A : Option Addr) (l p : Nat), c = [.int .i64 k, .int .i64 n, .int .i64 d, .string t, .slice A l p] ∧
    Calls Tryz.prog 8 #[.agg #[.int .i64 k, .int .i64 n, .int .i64 d, .string t, .slice A l p]] w fun e w' => ∃ (k' : Int) (f : Nat) (t' : ByteArray) (A' : Option Addr) (l' p' : Nat),
      e = .returned (.agg #[.int .i64 k', .float .f64 f, .string t', .slice A' l' p']) ∧ E' w' (fun b => w.heap.size ≤ b) x [.int .i64 k', .float .f64 f, .string t', .slice A' l' p'] ∧ Fr w w'
set_option maxRecDepth 100000 in
set_option maxHeartbeats 2000000 in
theorem all_gen {α : Type} {E E' : Say α} (L : Lie E) (L' : Lie E') (S : Nat → Prop) (g cap : Nat) (xs : List α) (w : World) (hv : RowOf E 5 w S g 0 xs) (h0 : 0 < xs.length) (h30 : xs.length ≤ 30) (hof : ∀ x ∈ xs, OfC E E' x) :
    Calls Tryz.prog 16 #[.slice (some ⟨g, 0, none⟩) xs.length cap] w fun e w' => ∃ g' cap', e = .returned (.slice (some ⟨g', 0, none⟩) xs.length cap') ∧ RowOf E' 4 w' (fun b => w.heap.size ≤ b) g' 0 xs ∧ Fr w w' := by
  have Hv := Lib.hid hv; clear hv
  have HF := Lib.hid hof; clear hof
  obtain ⟨i0, hi, hz0, hz1, hz2⟩ := info_parts Tryz.infoIVal
  obtain ⟨n, hn⟩ : ∃ n, n = xs.length := ⟨_, rfl⟩
  have Hn := Lib.hid hn
  rw [← hn] at h0 h30 ⊢
  clear hn
  go_enter Tryz.func16, Tryz.ntmps16
  go_wp2
  go_loopw [3, 4] (fun v i wr => ∃ k : Nat, k ≤ n ∧ i = .int .i64 k ∧ (∃ css, OR E' wr w.heap.size 30 4 v (xs.take k) css) ∧ Fr w wr) (fun _ i _ => n - (intOf i).toNat)
  case atStart => exact ⟨0, Nat.zero_le _, rfl, ⟨_, by simpa using OR.nil _ _ _ _ _⟩, Fr.refl _⟩
  case round =>
    obtain ⟨k, hk, rfl, ⟨css, hor⟩, hf⟩ := hrel
    have Hor := Lib.hid hor; clear hor
    by_cases hlt : k < n
    · have hkl : k < xs.length := by rw [← Hn.out]; exact hlt
      obtain ⟨cs, hE, hcs⟩ := (Hv.out.fr L hf).at hkl
      obtain ⟨k1, n1, d1, t1, A1, l1, p1, rfl, hcall⟩ := HF.out _ (List.getElem_mem hkl) wr S cs hE
      have hg : g < wr.heap.size := (Hv.out.fr L hf).lt
      have c0 := hcs 0 _ rfl
      have c1 := hcs 1 _ rfl
      have c2 := hcs 2 _ rfl
      have c3 := hcs 3 _ rfl
      have c4 := hcs 4 _ rfl
      simp only [Nat.zero_add, Nat.add_zero] at c0 c1 c2 c3 c4
      have hC := Lib.hid hcall
      clear hcall hcs hE
      go_wp2_with fail
      refine hC.out.mono ?_
      rintro e w1 ⟨k2, f2, t2, A2, l2, p2, rfl, hE2, hf1⟩
      have HE2 := Lib.hid hE2; clear hE2
      have hf2 := hf.step hf1
      have hsz := hf2.size
      have hsz1 := hf1.size
      have Hor1 := Lib.hid (Hor.out.fr L' hf1)
      clear c0 c1 c2 c3 c4
      go_wp2_with (at_builtin; refine wpList_append_lies _ rfl _ _ 34 rfl w.heap.size 30 i0 (iv 0 0 mt) 4 56 Tryz.underlying34 hi hz0 hz1 hz2 rfl (by decide) _ _ _ rfl ((Hor1.out.alloc L' _).take (Nat.le_of_lt hkl)) ⟨w1.heap.size, 0, none⟩ 1 1 [.int .i64 k2, .float .f64 f2, .string t2, .slice A2 l2 p2] rfl rfl (news_new rfl rfl) (oneCells rfl) (by decide) (by simp only [maxLen]; omega) (by omega) (by simp; omega) _ rfl ?_)
      intro g2 cap2 w2 hown1 hgrow hat hlt2
      have hor3 := (Hor1.out.alloc L' (.cells #[.int .i64 k2, .float .f64 f2, .string t2, .slice A2 l2 p2] 30)).next L' (S := fun b => wr.heap.size ≤ b) (c := [.int .i64 k2, .float .f64 f2, .string t2, .slice A2 l2 p2]) hkl (L'.fr HE2.out ((Fr.refl _).alloc _)) rfl (fun b (h : wr.heap.size ≤ b) => ⟨by have := hf.size; omega, fun _ e => by have := (Hor.out.lt _ e.symm).2; omega⟩) hown1 hgrow hat (by simp)
      have hf3 : Fr w w2 := (hf2.alloc _).grown hgrow (fun q h => (Hor1.out.lt _ h).1)
      clear hown1 hgrow hat
      have Hor3 := Lib.hid hor3; clear hor3
      go_wp2
      go_roundw
      case rel => exact ⟨k + 1, by omega, by simp, ⟨_, Hor3.out⟩, hf3⟩
      case measure => simp [intOf]; omega
    · have hkn : k = n := by omega
      subst hkn
      have hls : xs.take k = xs := by rw [Hn.out, List.take_length]
      have hor := Hor.out
      rw [hls] at hor
      obtain ⟨g2, c, rfl, hrow⟩ := hor.done L' (by rw [← Hn.out]; exact h0)
      rw [← Hn.out]
      have Hrow := Lib.hid hrow
      clear hrow hor hls Hor
      go_wp2
      go_ret
      exact ⟨g2, c, rfl, Hrow.out, hf⟩
theorem ofC_num (x : Int) (hx : x.natAbs < 2 ^ 53) : OfC (ENum vN) (ENum iN) x := by
  intro w S c hc
  refine ⟨1, x, 1, mt, none, 0, 0, hc, (of_num x w hx).mono fun e w' h => ?_⟩
  obtain ⟨rfl, hf⟩ := h
  exact ⟨1, fw x, mt, none, 0, 0, rfl, rfl, hf⟩
end Go.Proofs.YtlhonpmpchkkfaaGreatDoor
