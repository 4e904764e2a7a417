import Derived.Test.YtcmpfcijockmhaaGreatDoorS12
set_option linter.unusedSimpArgs false
set_option linter.unusedVariables false
namespace Go.Proofs.YtcmpfcijockmhaaGreatDoor
open Go.RowKit
theorem own_fr {w w' : World} {base : Nat} {e : TypeId} {sz : Nat} {v : Value} {n : Nat} {xs : List Value} (h : w.ownsRow base e sz v n xs) (hf : Fr w w') : w'.ownsRow base e sz v n xs := by
  refine ⟨h.1, ?_⟩
  rcases h.2 with ⟨rfl, hn⟩ | ⟨g, cap, cur, rfl, hb, hg, hnc, hcm, hcs, htake⟩
  · exact .inl ⟨rfl, hn⟩
  · exact .inr ⟨g, cap, cur, rfl, hb, (hf.block g (Array.getElem?_eq_some_iff.1 hg).1).trans hg, hnc, hcm, hcs, htake⟩
theorem txt_step {l : List ByteArray} {k : Nat} (hk : k < l.length) : strs (l.take (k + 1)) = strs (l.take k) ++ [Value.string l[k]] := by
  unfold strs
  rw [List.take_succ_eq_append_getElem hk, List.map_append]; rfl
theorem Tryz.infoStr : (Tryz.prog.info? 9).map (fun i => (i.zero, i.size, i.bytes)) = some (some (.string mt), 1, 16) := by kernel_rfl
theorem str_new (w : World) (x : ByteArray) (t : TypeId) : ∀ j u, [Value.string x][j]? = some u → (w.alloc (.cells #[.string x] t)).cell? ((⟨w.heap.size, 0, none⟩ : Addr).add j) = some u := by
  intro j u hu
  match j, hu with
  | 0, hu => simp at hu; subst hu; simp [Addr.add, go_sem]
theorem one_str (x : ByteArray) : ∀ u ∈ [Value.string x], u.oneCell' = true := by
  intro u hu; simp at hu; subst hu; rfl
set_option maxRecDepth 100000 in
set_option maxHeartbeats 3000000 in
theorem texts_asc (A : Option Addr) (cap : Nat) (l : List SVal) (w : World) (hv : VL w A l) (hk : ∀ x ∈ l, x = tx x.t ∧ x.t.size ≤ maxLen ∧ asc x.t.data.toList = true) :
    Calls Tryz.prog 211 #[.slice A l.length cap] w fun e w' => ∃ A' cap', e = .returned (.tuple #[.slice A' l.length cap', sv 0 0 0 mt, .bool true]) ∧ TL w' A' (l.map SVal.t) ∧ Fr w w' := by
  have hl := hv.1
  have Hv := Lib.hid hv; clear hv
  have HF := Lib.hid hk; clear hk
  obtain ⟨i0, hi, hz0, hz1, hz2⟩ := info_parts Tryz.infoVal
  obtain ⟨i1, hj, hy0, hy1, hy2⟩ := info_parts Tryz.infoStr
  obtain ⟨n, hn⟩ : ∃ n, n = l.length := ⟨_, rfl⟩
  have Hn := Lib.hid hn
  rw [← hn] at hl ⊢
  clear hn
  go_enter Tryz.func211, Tryz.ntmps211
  go_wp2
  go_loopw [5, 6] (fun v i wr => ∃ k : Nat, k ≤ n ∧ i = .int .i64 k ∧ wr.ownsRow (w.heap.size + 1) 27 5 v k ((l.take k).flatMap SVal.cells) ∧ Fr (w.alloc (.cells #[.int .i64 0, .int .i64 0, .int .i64 0, .string mt, .slice none 0 0] 27)) wr) (fun _ i _ => n - (intOf i).toNat)
  case atStart => exact ⟨0, Nat.zero_le _, rfl, by simpa using World.ownsRow_nil _ _ _ _, Fr.refl _⟩
  case round =>
    obtain ⟨k, hk, rfl, hown, hf⟩ := hrel
    have hsz := hf.size
    simp at hsz
    have hf0 : Fr w wr := (Fr.alloc (Fr.refl w) _).step hf
    by_cases hlt : k < n
    · have hkl : k < l.length := by rw [← Hn.out]; exact hlt
      obtain ⟨g, rfl, hg, c0, c1, c2, c3, c4⟩ := (Hv.out.fr hf0).at hkl
      have hH := Lib.hid (HF.out l[k] (List.getElem_mem hkl))
      have hts := Lib.hid (take_step hkl)
      generalize hx : l[k] = x at *
      obtain ⟨s, hs⟩ : ∃ s, x = tx s := ⟨_, hH.out.1⟩
      subst hs
      simp only [tx] at c0 c1 c2 c3 c4 
      have Hs := Lib.hid hH.out.2; clear hH
      go_wp2_with fail
      refine (AsText_asc s _ Hs.out.1 Hs.out.2).mono ?_
      rintro e w1 ⟨rfl, hf1⟩
      have hown0 := own_fr hown hf1
      have hf2 := hf.step hf1
      have hlt1 := hf1.size
      clear hown hf c0 c1 c2 c3 c4
      unfold tx SVal.v sv
      go_wp2_with (at_builtin; refine wpList_append_own _ rfl _ _ 29 rfl (w.heap.size + 1) 27 i0 (sv 0 0 0 mt) 5 64 Tryz.underlying29 hi hz0 hz1 hz2 rfl (by decide) _ _ _ rfl (hown0.alloc _) ⟨w1.heap.size, 0, none⟩ 1 1 (tx s).cells rfl rfl (cells_new _ (tx s) _) (one_cells (tx s)) (by simp only [maxLen]; omega) (by omega) (by simp; omega) ?_)
      intro v' w2 hown1 hgrow _
      rw [← hts.out] at hown1
      have hf3 := (hf2.alloc _).grown hgrow (fun k hk => by have := (hown0.lt k hk).1; simpa using this)
      clear hown0 hgrow hf2
      go_wp2
      go_roundw
      case rel => exact ⟨k + 1, by omega, by simp, hown1, hf3⟩
      case measure => simp [intOf]; omega
    · have hkn : k = n := by omega
      subst hkn
      have hls : (l.take k).flatMap SVal.cells = l.flatMap SVal.cells := by rw [Hn.out, List.take_length]
      rw [hls] at hown
      obtain ⟨A', cap', hA, hV⟩ := VL.own (l := l) (by rw [← Hn.out]; exact hown) (by rw [← Hn.out]; exact hl)
      rw [← Hn.out] at hA
      subst hA
      clear hown hls
      have HV := Lib.hid hV; clear hV
      go_wp2_with fail
      rw [Hn.out]
      refine (First_none A' cap' l _ (HV.out.fr (by repeat (first | (with_reducible exact Fr.refl _) | ((with_reducible refine Fr.set ?_ ?_ _); focus (simp; done)) | (with_reducible refine Fr.alloc ?_ _) | (with_reducible refine Fr.drew ?_) | (with_reducible refine Fr.step ?_ (by assumption))))) (fun x hx => by rw [(HF.out x hx).1]; simp [tx])).mono ?_
      rintro e w1 ⟨rfl, hf1⟩
      rw [← Hn.out]
      have hf2 := hf.step hf1
      have HV1 := Lib.hid (HV.out.fr hf1)
      have hlt1 := hf1.size
      clear hf hf1 HV
      obtain ⟨hc2, hz2⟩ := hf2.cells
      simp at hc2 hz2
      unfold sv
      go_wp2
      obtain ⟨ts, hts⟩ : ∃ ts, ts = l.map SVal.t := ⟨_, rfl⟩
      have Ht := Lib.hid hts
      have Hlen := Lib.hid (show ts.length = k by rw [hts, List.length_map, Hn.out])
      clear hts
      have hf2' := Lib.hid hf2
      go_loopw [9, 10] (fun v i wr => ∃ m : Nat, m ≤ k ∧ i = .int .i64 m ∧ wr.ownsRow (w1.heap.size + 1) 9 1 v m (strs (ts.take m)) ∧ Fr (w1.alloc (.cells #[.int .i64 0, .int .i64 0, .int .i64 0, .string mt, .slice none 0 0] 27)) wr) (fun _ i _ => k - (intOf i).toNat)
      case atStart => exact ⟨0, Nat.zero_le _, rfl, World.ownsRow_nil _ _ _ _, Fr.refl _⟩
      case round =>
        obtain ⟨m, hm, rfl, hown, hf⟩ := hrel
        have hsz := hf.size
        simp at hsz
        have hf1 : Fr w1 wr := (Fr.alloc (Fr.refl w1) _).step hf
        by_cases hlt : m < k
        · have hkl : m < l.length := by rw [← Hn.out]; exact hlt
          obtain ⟨g, rfl, hg, c0, c1, c2, c3, c4⟩ := (HV1.out.fr hf1).at hkl
          have hkt : m < ts.length := by rw [Hlen.out]; exact hlt
          have hts := Lib.hid (txt_step hkt)
          have htm : ts[m] = l[m].t := by simp [Ht.out]
          rw [htm] at hts
          clear htm
          generalize hx : l[m] = x at *
          go_wp2_with (at_builtin; refine wpList_append_own _ rfl _ _ 34 rfl (w1.heap.size + 1) 9 i1 (.string mt) 1 16 Tryz.underlying34 hj hy0 hy1 hy2 rfl (by decide) _ _ _ rfl (hown.alloc _) ⟨wr.heap.size, 0, none⟩ 1 1 [.string x.t] rfl rfl (str_new _ x.t _) (one_str x.t) (by simp only [maxLen]; omega) (by omega) (by simp; omega) ?_)
          intro v' w2 hown1 hgrow _
          rw [← hts.out] at hown1
          have hf3 := (hf.alloc _).grown hgrow (fun k hk => by have := (hown.lt k hk).1; simpa using this)
          clear hown hgrow hf c0 c1 c2 c3 c4
          go_wp2
          go_roundw
          case rel => exact ⟨m + 1, by omega, by simp, hown1, hf3⟩
          case measure => simp [intOf]; omega
        · have hmk : m = k := by omega
          subst hmk
          have hls : ts.take m = ts := by rw [← Hlen.out, List.take_length]
          rw [hls] at hown
          obtain ⟨B', capb, hB, hT⟩ := TL.own (l := ts) (by rw [Hlen.out]; exact hown) (by rw [Hlen.out]; exact hl)
          rw [Hlen.out] at hB
          subst hB
          have HT := Lib.hid hown; clear hT
          clear hown hls
          have hf4 := hf2'.out.step hf1
          obtain ⟨hc3, hz3⟩ := hf4.cells
          simp at hc3 hz3
          have hfw : Fr w wr := (Fr.alloc (Fr.refl w) _).step hf4
          go_wp2
          exact bodyPost_ret (v := .tuple #[.slice B' m capb, sv 0 0 0 mt, .bool true]) (by simp [results, Tryz.results211, go_sem, sv, mt, *]) rfl ⟨B', capb, rfl, by rw [← Ht.out]; exact TL.of5 HT.out Hlen.out hl (by simp; omega) (by simp; omega) (by simp; omega) (by simp; omega) (by simp; omega), by repeat (first | exact hfw | ((with_reducible refine Fr.set ?_ ?_ _); focus (simp; done)))⟩
end Go.Proofs.YtcmpfcijockmhaaGreatDoor
