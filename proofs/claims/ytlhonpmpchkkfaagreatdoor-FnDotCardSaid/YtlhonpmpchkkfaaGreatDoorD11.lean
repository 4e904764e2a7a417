import Derived.Test.YtlhonpmpchkkfaaGreatDoorGL
import Derived.Deep.RegionLaw
set_option linter.unusedSimpArgs false
set_option linter.unusedVariables false
/- TRANSPOSE of a column. -/
namespace Go.Proofs.YtlhonpmpchkkfaaGreatDoor
open Go.RowKit
open Fl
open Ieee (double)
/-- The pieces of one element each that a row of arguments is cut into. -/
def cutR (ga capA : Nat) (k : Nat) : List Value := (List.range k).map fun j => .slice (some ⟨ga, j * 10, none⟩) 1 (capA - j)
theorem cutR_next (ga capA k : Nat) : cutR ga capA (k + 1) = cutR ga capA k ++ [.slice (some ⟨ga, k * 10, none⟩) 1 (capA - k)] := by
  unfold cutR; rw [List.range_succ, List.map_append]; rfl
theorem flat_ones : ∀ xs : List Int, (one xs).flatten = xs
  | [] => rfl
  | x :: l => by
    have := flat_ones l
    unfold one at *
    simp [this]
theorem fit_one {xs : List Int} (h0 : 0 < xs.length) (h30 : xs.length ≤ 30) (hb : ∀ x ∈ xs, x.natAbs < 2 ^ 53) : Fit (one xs) := by
  refine ⟨by rw [one_len]; exact h0, by rw [one_len]; exact h30, fun r hr => ?_⟩
  obtain ⟨x, hx, rfl⟩ := List.mem_map.1 hr
  exact ⟨by simp, by simp, fun y hy => by simp at hy; subst hy; exact hb _ hx⟩
theorem fit_row {xs : List Int} (h0 : 0 < xs.length) (h30 : xs.length ≤ 30) (hb : ∀ x ∈ xs, x.natAbs < 2 ^ 53) : Fit [xs] :=
  ⟨by simp, by simp, fun r hr => by simp at hr; subst hr; exact ⟨h0, h30, hb⟩⟩
theorem far_eq {w : World} {b : Nat} {r : Option Obj} (h : w.heap[b]? = r) (a : Addr) (v : Value) (ha : b ≠ a.block) : (w.setCell a v).heap[b]? = r := (Below.heap_setCell _ _ _ _ ha).trans h
theorem drew_eq {w : World} {b : Nat} {r : Option Obj} (h : w.heap[b]? = r) : w.drew.heap[b]? = r := h
theorem set_ne {c : Array Value} {o p : Nat} {v : Value} (h : o ≠ p) : (c.setIfInBounds o v)[p]? = c[p]? := Array.getElem?_setIfInBounds_ne h
theorem set_eq {c : Array Value} {o : Nat} {v : Value} (h : o < c.size) : (c.setIfInBounds o v)[o]? = some v := by simp [h]
def put10 (c : Array Value) (o : Nat) (a0 a1 a2 a3 a4 a5 a6 a7 a8 a9 : Value) : Array Value :=
  (((((((((c.setIfInBounds o a0).setIfInBounds (o + 1) a1).setIfInBounds (o + 2) a2).setIfInBounds (o + 3) a3).setIfInBounds (o + 4) a4).setIfInBounds (o + 5) a5).setIfInBounds (o + 6) a6).setIfInBounds (o + 7) a7).setIfInBounds (o + 8) a8).setIfInBounds (o + 9) a9
theorem put10_size (c : Array Value) (o : Nat) (a0 a1 a2 a3 a4 a5 a6 a7 a8 a9 : Value) : (put10 c o a0 a1 a2 a3 a4 a5 a6 a7 a8 a9).size = c.size := by simp [put10]
theorem put10_low {c : Array Value} {o p : Nat} {a0 a1 a2 a3 a4 a5 a6 a7 a8 a9 : Value} (h : p < o) : (put10 c o a0 a1 a2 a3 a4 a5 a6 a7 a8 a9)[p]? = c[p]? := by
  unfold put10
  rw [set_ne (by omega), set_ne (by omega), set_ne (by omega), set_ne (by omega), set_ne (by omega), set_ne (by omega), set_ne (by omega), set_ne (by omega), set_ne (by omega), set_ne (by omega)]
theorem put10_at {c : Array Value} {o : Nat} {a0 a1 a2 a3 a4 a5 a6 a7 a8 a9 : Value} (h : o + 10 ≤ c.size) (j : Nat) (u : Value) (hu : [a0, a1, a2, a3, a4, a5, a6, a7, a8, a9][j]? = some u) : (put10 c o a0 a1 a2 a3 a4 a5 a6 a7 a8 a9)[o + j]? = some u := by
  have hj : j < 10 := by have := (List.getElem?_eq_some_iff.1 hu).1; simpa using this
  unfold put10
  match j, hj, hu with
  | 0, _, hu => simp at hu; subst hu; (iterate 9 rw [set_ne (by omega)]); exact set_eq (by (try simp); omega)
  | 1, _, hu => simp at hu; subst hu; (iterate 8 rw [set_ne (by omega)]); exact set_eq (by (try simp); omega)
  | 2, _, hu => simp at hu; subst hu; (iterate 7 rw [set_ne (by omega)]); exact set_eq (by (try simp); omega)
  | 3, _, hu => simp at hu; subst hu; (iterate 6 rw [set_ne (by omega)]); exact set_eq (by (try simp); omega)
  | 4, _, hu => simp at hu; subst hu; (iterate 5 rw [set_ne (by omega)]); exact set_eq (by (try simp); omega)
  | 5, _, hu => simp at hu; subst hu; (iterate 4 rw [set_ne (by omega)]); exact set_eq (by (try simp); omega)
  | 6, _, hu => simp at hu; subst hu; (iterate 3 rw [set_ne (by omega)]); exact set_eq (by (try simp); omega)
  | 7, _, hu => simp at hu; subst hu; (iterate 2 rw [set_ne (by omega)]); exact set_eq (by (try simp); omega)
  | 8, _, hu => simp at hu; subst hu; rw [set_ne (by omega)]; exact set_eq (by (try simp); omega)
  | 9, _, hu => simp at hu; subst hu; exact set_eq (by (try simp); omega)
theorem own_full {w : World} {base : Nat} {e : TypeId} {sz : Nat} {g n : Nat} {xs : List Value} (h : w.ownsRow base e sz (.slice (some ⟨g, 0, none⟩) n n) n xs) : ∃ c : Array Value, w.heap[g]? = some (.cells c e (0, 0)) ∧ c.size = n * sz ∧ c.toList = xs := by
  rcases h.2 with ⟨h', _⟩ | ⟨g', cap', cur, h', _, hg, _, _, hs, htake⟩
  · simp at h'
  · simp only [Value.slice.injEq, Option.some.injEq, Addr.mk.injEq, and_true, true_and] at h'
    obtain ⟨rfl, rfl⟩ := h'
    refine ⟨cur, hg, hs, ?_⟩
    rw [← htake, List.take_of_length_le (by rw [Array.length_toList, hs]; exact Nat.le_refl _)]
/-- How far the turned row has been filled. -/
def TR (xs : List Int) (gm : Nat) (w7 : World) (k : Nat) (W : World) : Prop :=
  (∀ b, b < w7.heap.size → b ≠ gm → W.heap[b]? = w7.heap[b]?) ∧ w7.heap.size ≤ W.heap.size ∧
  ((k = 0 ∧ W.heap[gm]? = some (.cells #[.slice none 0 0] 49 (0, 0))) ∨
   (0 < k ∧ ∃ (gh : Nat) (c : Array Value), w7.heap.size ≤ gh ∧ W.heap[gm]? = some (.cells #[.slice (some ⟨gh, 0, none⟩) xs.length xs.length] 49 (0, 0)) ∧
     W.heap[gh]? = some (.cells c 54 (0, 0)) ∧ c.size = xs.length * 10 ∧ ∀ (i : Nat) (x : Int), i < k → xs[i]? = some x → ∀ (j : Nat) (u : Value), (fN x)[j]? = some u → c[i * 10 + j]? = some u))
theorem TR.next {xs : List Int} {gm : Nat} {w7 : World} {k gh : Nat} {c : Array Value} {x : Int} {W : World} (h1 : ∀ b, b < w7.heap.size → b ≠ gm → W.heap[b]? = w7.heap[b]?) (h2 : w7.heap.size ≤ W.heap.size) (hgh : w7.heap.size ≤ gh)
    (h3 : W.heap[gm]? = some (.cells #[.slice (some ⟨gh, 0, none⟩) xs.length xs.length] 49 (0, 0))) (h4 : W.heap[gh]? = some (.cells (put10 c (k * 10) (.string mt) (.float .f64 (fw x)) (.string mt) (.slice none 0 0) (.slice none 0 0) (.bool false) (.string mt) (.int .u8 1) (.pointer none) (.pointer none)) 54 (0, 0)))
    (hc : c.size = xs.length * 10) (hx : xs[k]? = some x) (hfill : ∀ (i : Nat) (x : Int), i < k → xs[i]? = some x → ∀ (j : Nat) (u : Value), (fN x)[j]? = some u → c[i * 10 + j]? = some u) : TR xs gm w7 (k + 1) W := by
  have hk := (List.getElem?_eq_some_iff.1 hx).1
  refine ⟨h1, h2, .inr ⟨by omega, gh, _, hgh, h3, h4, by rw [put10_size]; exact hc, fun i x' hi hx' j u hu => ?_⟩⟩
  have hj : j < 10 := by have := (List.getElem?_eq_some_iff.1 hu).1; simpa [fN] using this
  by_cases hik : i < k
  · rw [put10_low (by omega)]
    exact hfill i x' hik hx' j u hu
  · have hik2 : i = k := by omega
    subst hik2
    have e : x = x' := Option.some.inj (hx.symm.trans hx')
    subst e
    refine put10_at ?_ j u ?_
    · omega
    · exact hu
set_option maxRecDepth 100000 in
set_option maxHeartbeats 8000000 in
theorem TRANSPOSEm (f : Value) (R cap p' q : Nat) (xs : List Int) (w : World) (p b : Nat) (S : Nat → Prop) (hL : LS w p [b] [.agg #[.string mt, .float .f64 0, .string mt, .slice none 0 0, .slice (some ⟨R, 0, none⟩) (one xs).length cap, .bool false, .string mt, .int .u8 4, .pointer (some ⟨p', 0, none⟩), .pointer (some ⟨q, 0, none⟩)]])
    (hE : EF w S (one xs) (fmC R (one xs).length cap p' q)) (h0 : 0 < xs.length) (h30 : xs.length ≤ 30) (hb : ∀ x ∈ xs, x.natAbs < 2 ^ 53) :
    Calls Tryz.prog 25 #[f, .pointer (some ⟨p, 0, none⟩)] w fun e w' => ∃ gm, e = .returned (.agg #[.string mt, .float .f64 0, .string mt, .slice none 0 0, .slice (some ⟨gm, 0, none⟩) 1 1, .bool false, .string mt, .int .u8 4, .pointer none, .pointer none]) ∧
      RowOf (ESl (ENum fN) 10) 1 w' (fun b => w.heap.size ≤ b) gm 0 [xs] ∧ Fr w w' := by
  have HM1 := Lib.hid (fun W hL hE => minmax_any false R cap p' q (one xs) W p b S hL hE (fit_one h0 h30 hb))
  have HM2 := Lib.hid (fun W hL hE => minmax_any true R cap p' q (one xs) W p b S hL hE (fit_one h0 h30 hb))
  have HT := Lib.hid (fun W h => ToList_mat R cap p' q (one xs) W S h (fit_one h0 h30 hb))
  have hh : (((one xs).headD []).length : Nat) = 1 := by
    cases xs with
    | nil => simp at h0
    | cons x l => rfl
  rw [hh] at HM1 HM2
  rw [show pickN false ((1 : Nat) : Int) ((one xs).length : Nat) = ((one xs).length : Nat) from rfl] at HM1
  rw [show pickN true ((1 : Nat) : Int) ((one xs).length : Nat) = 1 from rfl] at HM2
  rw [flat_ones] at HT
  rw [one_len] at *
  have HL := Lib.hid hL; clear hL
  have HE := Lib.hid hE
  have hrow : RowOf (ESl (ENum fN) 10) 1 w S R 0 (one xs) := by
    obtain ⟨R1, cap1, p1, q1, b1, e1, h, _⟩ := hE
    simp [fmC] at e1
    obtain ⟨⟨rfl, _⟩, _⟩ := e1
    exact h
  have HR := Lib.hid hrow; clear hrow hE hh
  have LF := lie_sl (lie_num fN) 10
  obtain ⟨i0, hi, hz0, hz1, hz2⟩ := info_parts Tryz.infoFa
  obtain ⟨i1, hj, hy0, hy1, hy2⟩ := info_parts Tryz.infoFas
  obtain ⟨n, hn⟩ : ∃ n, n = xs.length := ⟨_, rfl⟩
  have Hn := Lib.hid hn
  rw [← hn] at h0 h30 HM1 HM2 HT HL HE
  clear hn hb
  have c3 := (HL.out.el 0 b _ rfl rfl).2.2
  have hbs := (HL.out.hb b (by simp)).2
  go_enter Tryz.func25, Tryz.ntmps25
  go_wp2_with fail
  refine (Len_any _ p [b] _ (HL.out.fr (by repeat (first | (with_reducible exact Fr.refl _) | ((with_reducible refine Fr.set ?_ ?_ _); focus (simp; done)) | (with_reducible refine Fr.alloc ?_ _) | (with_reducible refine Fr.drew ?_) | (with_reducible refine Fr.step ?_ (by assumption)))))).mono ?_
  rintro e w1 ⟨rfl, rfl⟩
  go_wp2_with fail
  refine (Back_last _ p [b] _ (HL.out.fr (by repeat (first | (with_reducible exact Fr.refl _) | ((with_reducible refine Fr.set ?_ ?_ _); focus (simp; done)) | (with_reducible refine Fr.alloc ?_ _) | (with_reducible refine Fr.drew ?_) | (with_reducible refine Fr.step ?_ (by assumption))))) (by simp)).mono ?_
  rintro e w1 ⟨rfl, rfl⟩
  go_wp2_with fail
  refine (HT.out _ (HR.out.fr LF (by repeat (first | (with_reducible exact Fr.refl _) | ((with_reducible refine Fr.set ?_ ?_ _); focus (simp; done)) | (with_reducible refine Fr.alloc ?_ _) | (with_reducible refine Fr.drew ?_) | (with_reducible refine Fr.step ?_ (by assumption)))))).mono ?_
  rintro e w2 ⟨ga, capA, rfl, hcapA, hA, hf2⟩
  have HA := Lib.hid hA; clear hA
  have hfw2 : Fr w w2 := (by repeat (first | (with_reducible exact Fr.refl _) | ((with_reducible refine Fr.set ?_ ?_ _); focus (simp; done)) | (with_reducible refine Fr.alloc ?_ _) | (with_reducible refine Fr.drew ?_) | (with_reducible refine Fr.step ?_ (by assumption))))
  have hsz2 := hf2.size
  simp at hsz2
  go_wp2_with fail
  refine (HM1.out _ (HL.out.fr hfw2) (lie_ef.fr HE.out hfw2)).mono ?_
  rintro e w3 ⟨rfl, hf3⟩
  have hfw3 := hfw2.step hf3
  have hsz3 := hf3.size
  go_wp2_with fail
  refine (HM2.out _ (HL.out.fr hfw3) (lie_ef.fr HE.out hfw3)).mono ?_
  rintro e w4 ⟨rfl, hf4⟩
  have hfw4 := hfw3.step hf4
  have hsz4 := hf4.size
  have hA4 := (HA.out.fr (lie_num fN) hf3).fr (lie_num fN) hf4
  have hgaw := hA4.in
  go_wp2_with (at_make; refine wpList_make_own _ rfl _ _ 50 rfl w4.heap.size 49 i1 (.slice none 0 0) 1 Tryz.underlying50 hj hy0 hy1 _ _ _ 0 rfl rfl rfl (by omega) (by simp [maxLen]) (Nat.le_refl _) ?_)
  intro w5 hown5 hgrow5
  have hf5 : Fr w4 w5 := (Fr.refl w4).grown hgrow5 (fun q h => by cases h)
  have HA5 := Lib.hid (hA4.fr (lie_num fN) hf5)
  have hfw5 := hfw4.step hf5
  clear hA4 hgrow5
  go_wp2
  go_loopw [12, 13] (fun v i wr => ∃ k : Nat, k ≤ n ∧ i = .int .i64 k ∧ wr.ownsRow w4.heap.size 49 1 v k (cutR ga capA k) ∧ Fr w4 wr) (fun _ i _ => n - (intOf i).toNat)
  case atStart => exact ⟨0, Nat.zero_le _, rfl, hown5, hf5⟩
  case round =>
    obtain ⟨k, hk, rfl, hown, hf⟩ := hrel
    have Hown := Lib.hid hown; clear hown
    have hsz := hf.size
    by_cases hlt : k < n
    · have hkc : k < capA := by omega
      have hnc : ¬ capA = k := by omega
      have hk1 : (k : Int) + 1 ≤ (capA : Int) := by omega
      go_wp2_with (at_builtin; refine wpList_append_lies _ rfl _ _ 50 rfl w4.heap.size 49 i1 (.slice none 0 0) 1 24 Tryz.underlying50 hj hy0 hy1 hy2 rfl (by decide) _ _ _ rfl (Hown.out.alloc _) ⟨wr.heap.size, 0, none⟩ 1 1 [.slice (some ⟨ga, k * 10, none⟩) 1 (capA - k)] rfl rfl (news_new rfl rfl) (oneCells rfl) (by decide) (by simp only [maxLen]; omega) (by omega) (by simp; omega) _ rfl ?_)
      intro g6 cap6 w6 hown6 hgrow6 hat6 hlt6
      rw [← cutR_next] at hown6
      have hf6 : Fr w4 w6 := (hf.alloc _).grown hgrow6 (fun q h => (Hown.out.lt _ h).1)
      clear hgrow6 hat6
      go_wp2
      go_roundw
      case rel => exact ⟨k + 1, by omega, by simp, hown6, hf6⟩
      case measure => simp [intOf]; omega
    · have hkn : n = k := by omega
      subst hkn
      obtain ⟨gs, cs, rfl, hgs, hgs2⟩ := Hown.out.form h0
      have HS := Lib.hid (fun j hj => Hown.out.cellAt j hj)
      have HAr := Lib.hid (HA.out.fr (lie_num fN) ((hf3.step hf4).step hf))
      have hfwr := hfw4.step hf
      have hszr := hfwr.size
      obtain ⟨w6, e6⟩ : ∃ w6, w6 = wr := ⟨_, rfl⟩
      subst e6
      go_wp2_with (at_make; refine wpList_make_full _ rfl _ _ 50 rfl w6.heap.size 49 i1 (.slice none 0 0) 1 Tryz.underlying50 hj hy0 hy1 _ _ _ _ 1 rfl rfl rfl rfl (by omega) (by simp [maxLen]) (Nat.le_refl _) ?_)
      intro w7 hown7 hgrow7
      obtain ⟨c7, hb7, hc7, hl7⟩ := own_full hown7
      have hf7 : Fr w6 w7 := (Fr.refl w6).grown hgrow7 (fun q h => by cases h)
      have hc7' : c7 = #[.slice none 0 0] := by
        have : c7.toList = [.slice none 0 0] := hl7.trans (by simp [madeCells])
        cases c7; simp at this; rw [this]
      subst hc7'
      have hsz7 := hf7.size
      have lgm : w6.heap.size < w7.heap.size := block_lt hb7
      have HT7 := Lib.hid (show TR xs w6.heap.size w7 0 w7 from ⟨fun _ _ _ => rfl, Nat.le_refl _, .inl ⟨rfl, hb7⟩⟩)
      clear hown7 hgrow7 hb7 hc7 hl7
      go_wp2
      go_loopw [71] (fun i wr => ∃ k : Nat, k ≤ n ∧ i = .int .i64 k ∧ TR xs w6.heap.size w7 k wr ∧ Fr w wr) (fun i _ => n - (intOf i).toNat)
      case atStart => exact ⟨0, Nat.zero_le _, rfl, HT7.out, hfwr.step hf7⟩
      case round =>
        obtain ⟨k, hk2, rfl, hT, hf8⟩ := hrel
        have HTr := Lib.hid hT; clear hT
        by_cases hlt2 : k < n
        · have hkl : k < xs.length := by rw [← Hn.out]; exact hlt2
          have hin := HTr.out.1
          have hsz8 := HTr.out.2.1
          have lgs : gs < w6.heap.size := hgs2
          have lga : ga < w6.heap.size := HAr.out.lt
          have hcut : w6.cell? ⟨gs, k, none⟩ = some (.slice (some ⟨ga, k * 10, none⟩) 1 (capA - k)) := by
            rw [HS.out k (by omega)]; unfold cutR; rw [List.getElem?_map, List.getElem?_range hlt2]; rfl
          have keep : ∀ b o, b < w6.heap.size → wr.cell? ⟨b, o, none⟩ = w6.cell? ⟨b, o, none⟩ := fun b o hb =>
            World.cell?_of_block ((hin b (by omega) (by omega)).trans (hf7.block b hb))
          have s0 := (keep gs k lgs).trans hcut
          obtain ⟨cs2, hE2, hcs2⟩ := HAr.out.at hkl
          have hE' : cs2 = fN xs[k] := hE2
          subst hE'
          have Hxk := Lib.hid (show xs[k]? = some xs[k] from List.getElem?_eq_getElem hkl)
          generalize xs[k] = x at *
          have d0 := (keep ga _ lga).trans (hcs2 0 _ rfl)
          have d1 := (keep ga _ lga).trans (hcs2 1 _ rfl)
          have d2 := (keep ga _ lga).trans (hcs2 2 _ rfl)
          have d3 := (keep ga _ lga).trans (hcs2 3 _ rfl)
          have d4 := (keep ga _ lga).trans (hcs2 4 _ rfl)
          have d5 := (keep ga _ lga).trans (hcs2 5 _ rfl)
          have d6 := (keep ga _ lga).trans (hcs2 6 _ rfl)
          have d7 := (keep ga _ lga).trans (hcs2 7 _ rfl)
          have d8 := (keep ga _ lga).trans (hcs2 8 _ rfl)
          have d9 := (keep ga _ lga).trans (hcs2 9 _ rfl)
          simp only [Nat.zero_add, Nat.add_zero] at d0 d1 d2 d3 d4 d5 d6 d7 d8 d9
          clear hcs2 hE2 hcut
          have hk0 : (0 : Int) ≤ (k : Int) := Int.natCast_nonneg _
          have hn0 : (0 : Int) < (n : Int) := by omega
          have hmod : (k : Int) % (n : Int) = (k : Int) := Int.emod_eq_of_lt hk0 (by omega)
          have Hkeep := Lib.hid keep; clear keep
          have Hin := Lib.hid hin; clear hin
          go_wp2
          rw [hmod]
          clear hmod
          obtain ⟨w8, e8⟩ : ∃ w8, w8 = wr := ⟨_, rfl⟩
          subst e8
          go_loopw [81] (fun i wi => ((i = .int .i64 0 ∧ wi = w8) ∨ (i = .int .i64 1 ∧ TR xs w6.heap.size w7 (k + 1) wi)) ∧ Fr w wi) (fun i _ => 1 - (intOf i).toNat)
          case atStart => exact ⟨.inl ⟨rfl, rfl⟩, hf8⟩
          case round =>
            obtain ⟨⟨rfl, rfl⟩ | ⟨rfl, hT2⟩, hf9⟩ := hrel
            · rcases HTr.out.2.2 with ⟨hk00, hgm⟩ | ⟨hkp, gh, c, hgh, hgm, hgc, hgs3, hfill⟩
              · obtain ⟨cM, zM⟩ := obj_rules2 hgm
                have lgmr : w6.heap.size < wr.heap.size := by omega
                have lgar : ga < wr.heap.size := by omega
                have Hk00 := Lib.hid hk00; clear hk00
                have Hgm := Lib.hid hgm; clear hgm
                go_wp2_with (at_make; refine wpList_make_full _ rfl _ _ 49 rfl (wr.heap.size + 1) 54 i0 (fa 0 0 mt mt) 10 Tryz.underlying49 hi hz0 hz1 _ _ _ _ n rfl rfl rfl rfl (by rw [hz2]; omega) (by simp only [maxLen]; omega) (by simp) ?_)
                intro w9 hown9 hgrow9
                obtain ⟨c, hb9, hc9, _⟩ := own_full hown9
                have gmne : ¬ w6.heap.size = wr.heap.size := by omega
                have gmne2 : ¬ w6.heap.size = wr.heap.size + 1 := by omega
                have hbox := (hgrow9.block wr.heap.size (by simp) (fun e => by cases e)).trans (at_new rfl)
                have hgm9 := (hgrow9.block w6.heap.size (by simp; omega) (fun e => by cases e)).trans (at_old Hgm.out)
                obtain ⟨cX, zX⟩ := obj_rules2 hbox
                obtain ⟨cG, zG⟩ := obj_rules2 hgm9
                obtain ⟨cH, zH⟩ := obj_rules2 hb9
                have hsz9 := hgrow9.size
                simp at hsz9
                have lgh : wr.heap.size + 1 < w9.heap.size := block_lt hb9
                have ex : ∀ j, j < 10 → ∃ z, w9.cell? ⟨wr.heap.size + 1, k * 10 + j, none⟩ = some z := fun j hj => ⟨_, (cH _).trans (Array.getElem?_eq_getElem (by omega))⟩
                obtain ⟨y0, f0⟩ := ex 0 (by decide)
                obtain ⟨y1, f1⟩ := ex 1 (by decide)
                obtain ⟨y2, f2⟩ := ex 2 (by decide)
                obtain ⟨y3, f3⟩ := ex 3 (by decide)
                obtain ⟨y4, f4⟩ := ex 4 (by decide)
                obtain ⟨y5, f5⟩ := ex 5 (by decide)
                obtain ⟨y6, f6⟩ := ex 6 (by decide)
                obtain ⟨y7, f7⟩ := ex 7 (by decide)
                obtain ⟨y8, f8⟩ := ex 8 (by decide)
                obtain ⟨y9, f9⟩ := ex 9 (by decide)
                simp only [Nat.add_zero] at f0
                have HB9 := Lib.hid hb9
                have HG9 := Lib.hid hgm9
                have Hgrow := Lib.hid hgrow9
                have Hc9 := Lib.hid hc9
                clear hb9 hgm9 hgrow9 hown9 hc9 cH ex hbox
                have Hfill := Lib.hid (show ∀ (i : Nat) (x : Int), i < k → xs[i]? = some x → ∀ (j : Nat) (u : Value), (fN x)[j]? = some u → c[i * 10 + j]? = some u from fun i x hi => by have := Hk00.out; omega)
                go_wp2
                go_region
                all_goals
                  clear cX zX f0 f1 f2 f3 f4 f5 f6 f7 f8 f9 d0 d1 d2 d3 d4 d5 d6 d7 d8 d9 s0 cG zG zH
                  go_wp2
                  go_roundw
                  case rel =>
                    refine ⟨.inr ⟨rfl, TR.next (c := c) (gh := wr.heap.size + 1) (x := x) ?_ ?_ ?_ ?_ ?_ (by rw [← Hn.out]; exact Hc9.out) Hxk.out Hfill.out⟩, ?_⟩
                    · intro b hb hne
                      have hq : b ≠ wr.heap.size + 1 := by omega
                      refine drew_eq ?_
                      (iterate 10 refine far_eq ?_ _ _ hq)
                      refine far_eq ?_ _ _ (by show b ≠ w6.heap.size; omega)
                      exact (Hgrow.out.block b (by simp; omega) (fun e => by cases e)).trans ((heap_alloc_old _ _ (by omega)).trans (Hin.out b hb hne))
                    · simp; omega
                    · omega
                    · have hq : w6.heap.size ≠ wr.heap.size + 1 := by omega
                      refine drew_eq ?_
                      (iterate 10 refine far_set ?_ _ _ hq)
                      rw [← Hn.out]; exact heap_setCell_same _ _ 0 _ _ _ HG9.out
                    · exact drew_eq (heap_setCell_same _ (wr.heap.size + 1) (k * 10 + 9) _ _ _ (heap_setCell_same _ (wr.heap.size + 1) (k * 10 + 8) _ _ _ (heap_setCell_same _ (wr.heap.size + 1) (k * 10 + 7) _ _ _ (heap_setCell_same _ (wr.heap.size + 1) (k * 10 + 6) _ _ _ (heap_setCell_same _ (wr.heap.size + 1) (k * 10 + 5) _ _ _ (heap_setCell_same _ (wr.heap.size + 1) (k * 10 + 4) _ _ _ (heap_setCell_same _ (wr.heap.size + 1) (k * 10 + 3) _ _ _ (heap_setCell_same _ (wr.heap.size + 1) (k * 10 + 2) _ _ _ (heap_setCell_same _ (wr.heap.size + 1) (k * 10 + 1) _ _ _ (heap_setCell_same _ (wr.heap.size + 1) (k * 10) _ _ _ (far_set HB9.out ⟨w6.heap.size, 0, none⟩ _ (by show wr.heap.size + 1 ≠ w6.heap.size; omega))))))))))))
                    · have hq : w.heap.size ≤ wr.heap.size + 1 := by omega
                      refine Fr.drew ?_
                      (iterate 10 refine Fr.set hq ?_ _)
                      exact Fr.set (by show w.heap.size ≤ w6.heap.size; omega) ((hf9.alloc _).grown Hgrow.out (fun q h => by cases h)) _
                  case measure => simp [intOf]
              · have lgmr : w6.heap.size < wr.heap.size := by omega
                have lgar : ga < wr.heap.size := by omega
                rw [← Hn.out] at hgs3
                have lgh : gh < wr.heap.size := block_lt hgc
                have gmne : ¬ w6.heap.size = wr.heap.size := by omega
                have gmne2 : ¬ w6.heap.size = gh := by omega
                obtain ⟨cG, zG⟩ := obj_rules2 hgm
                obtain ⟨cH, zH⟩ := obj_rules2 hgc
                rw [← Hn.out] at cG
                have hkn0 : ¬ (n : Int) = 0 := by omega
                have hkn1 : ¬ n = 0 := by omega
                have ex : ∀ j, j < 10 → ∃ z, wr.cell? ⟨gh, k * 10 + j, none⟩ = some z := fun j hj => ⟨_, (cH _).trans (Array.getElem?_eq_getElem (by omega))⟩
                obtain ⟨y0, f0⟩ := ex 0 (by decide)
                obtain ⟨y1, f1⟩ := ex 1 (by decide)
                obtain ⟨y2, f2⟩ := ex 2 (by decide)
                obtain ⟨y3, f3⟩ := ex 3 (by decide)
                obtain ⟨y4, f4⟩ := ex 4 (by decide)
                obtain ⟨y5, f5⟩ := ex 5 (by decide)
                obtain ⟨y6, f6⟩ := ex 6 (by decide)
                obtain ⟨y7, f7⟩ := ex 7 (by decide)
                obtain ⟨y8, f8⟩ := ex 8 (by decide)
                obtain ⟨y9, f9⟩ := ex 9 (by decide)
                simp only [Nat.add_zero] at f0
                have HB9 := Lib.hid hgc
                have HG9 := Lib.hid hgm
                have Hc9 := Lib.hid hgs3
                have Hfill := Lib.hid hfill
                clear hgc hgm hgs3 cH ex hfill
                go_wp2
                go_region
                all_goals
                  clear f0 f1 f2 f3 f4 f5 f6 f7 f8 f9 d0 d1 d2 d3 d4 d5 d6 d7 d8 d9 s0 cG zG zH
                  go_wp2
                  go_roundw
                  case rel =>
                    refine ⟨.inr ⟨rfl, TR.next (c := c) (gh := gh) (x := x) ?_ ?_ ?_ ?_ ?_ (by rw [← Hn.out]; exact Hc9.out) Hxk.out Hfill.out⟩, ?_⟩
                    · intro b hb hne
                      have hq : b ≠ gh := by omega
                      refine drew_eq ?_
                      refine (heap_alloc_old _ _ (by simp; omega)).trans ?_
                      (iterate 10 refine far_eq ?_ _ _ hq)
                      exact Hin.out b hb hne
                    · simp; omega
                    · omega
                    · have hq : w6.heap.size ≠ gh := by omega
                      refine drew_eq ?_
                      refine at_old ?_
                      (iterate 10 refine far_set ?_ _ _ hq)
                      exact HG9.out
                    · exact drew_eq (at_old (heap_setCell_same _ gh (k * 10 + 9) _ _ _ (heap_setCell_same _ gh (k * 10 + 8) _ _ _ (heap_setCell_same _ gh (k * 10 + 7) _ _ _ (heap_setCell_same _ gh (k * 10 + 6) _ _ _ (heap_setCell_same _ gh (k * 10 + 5) _ _ _ (heap_setCell_same _ gh (k * 10 + 4) _ _ _ (heap_setCell_same _ gh (k * 10 + 3) _ _ _ (heap_setCell_same _ gh (k * 10 + 2) _ _ _ (heap_setCell_same _ gh (k * 10 + 1) _ _ _ (heap_setCell_same _ gh (k * 10) _ _ _ HB9.out)))))))))))
                    · have hq : w.heap.size ≤ gh := by omega
                      refine Fr.drew ?_
                      refine Fr.alloc ?_ _
                      (iterate 10 refine Fr.set hq ?_ _)
                      exact hf9
                  case measure => simp [intOf]
            · have HT2 := Lib.hid hT2; clear hT2
              go_wp2
              go_roundw
              case rel => exact ⟨k + 1, by omega, by simp, HT2.out, hf9⟩
              case measure => simp [intOf]; omega
        · have hkn2 : k = n := by omega
          rcases HTr.out.2.2 with ⟨hk00, _⟩ | ⟨hkp, gh, c, hgh, hgm, hgc, hgs3, hfill⟩
          · omega
          · have hsz8 := HTr.out.2.1
            have hres : wr.heap[w.heap.size]? = some (.cells #[.string ⟨#[]⟩, .float .f64 0, .string ⟨#[]⟩, .slice none 0 0, .slice none 0 0, .bool false, .string ⟨#[]⟩, .int .u8 0, .pointer none, .pointer none] 54 (0, 0)) :=
              (HTr.out.1 _ (by omega) (by omega)).trans ((hf7.block _ (by omega)).trans ((hf.block _ (by omega)).trans ((hf4.block _ (by omega)).trans ((hf3.block _ (by omega)).trans ((hf2.block _ (by simp)).trans (at_new rfl))))))
            have hrow : RowOf (ESl (ENum fN) 10) 1 wr (fun b => w.heap.size + 1 ≤ b) w6.heap.size 0 [xs] := by
              refine ⟨_, _, _, hgm, by omega, fun i r hr => ?_⟩
              have hi : i = 0 := by have := (List.getElem?_eq_some_iff.1 hr).1; simpa using this
              subst hi
              simp at hr
              subst hr
              refine ⟨_, ⟨gh, xs.length, rfl, c, _, _, hgc, by omega, fun i x hx => ⟨_, rfl, fun j u hu => ?_⟩⟩, fun j u hu => ?_⟩
              · rw [Nat.zero_add]
                exact hfill i x (by have := (List.getElem?_eq_some_iff.1 hx).1; rw [← Hn.out] at this; omega) hx j u hu
              · have hj0 : j = 0 := by have := (List.getElem?_eq_some_iff.1 hu).1; simpa using this
                subst hj0
                simpa using hu
            obtain ⟨cR, zR⟩ := obj_rules2 hres
            have lw : w.heap.size < wr.heap.size := block_lt hres
            have Hrow := Lib.hid hrow
            clear hgm hgc hgs3 hfill hres hrow
            go_wp2_with fail
            refine (newMatrix_any _ _ _ _).mono ?_
            rintro e w9 ⟨rfl, hf9⟩
            have c9 := hf9.cells.1
            have z9 := hf9.cells.2
            have hsz9 := hf9.size
            go_wp2
            exact bodyPost_ret (v := .agg #[.string mt, .float .f64 0, .string mt, .slice none 0 0, .slice (some ⟨w6.heap.size, 0, none⟩) 1 1, .bool false, .string mt, .int .u8 4, .pointer none, .pointer none]) (by simp [results, Tryz.results25, go_sem, sv, mt, *]) rfl ⟨w6.heap.size, rfl, by
              refine RowOf.mono LF (S := fun b => w.heap.size + 1 ≤ b) ?_ (fun b (h : w.heap.size + 1 ≤ b) => by omega)
              (iterate 10 refine RowOf.low LF ?_ _ _ (by simp))
              exact Hrow.out.fr LF hf9, by
              (iterate 10 refine Fr.set (by simp) ?_ _)
              exact hf8.step hf9⟩
end Go.Proofs.YtlhonpmpchkkfaaGreatDoor
