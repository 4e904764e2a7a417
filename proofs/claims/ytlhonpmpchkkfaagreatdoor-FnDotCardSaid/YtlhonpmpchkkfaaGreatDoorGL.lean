import Derived.Test.YtlhonpmpchkkfaaGreatDoorD7
import Derived.Test.YtlhonpmpchkkfaaGreatDoorGF
set_option linter.unusedSimpArgs false
set_option linter.unusedVariables false
/- Lists of matrices, the package's. -/
namespace Go.Proofs.YtlhonpmpchkkfaaGreatDoor
open Go.RowKit
open Fl
open Ieee (double)
theorem lastD_mem (bs : List Nat) (p : Nat) : bs.getLastD p = p ∨ bs.getLastD p ∈ bs := by
  cases bs with
  | nil => exact .inl rfl
  | cons x l =>
    right
    have hi : (x :: l).length - 1 < (x :: l).length := by simp
    rw [last_get (p := p) hi (by simp)]
    exact List.getElem_mem hi
set_option maxRecDepth 100000 in
set_option maxHeartbeats 1000000 in
theorem PushBack_far (w : World) (p : Nat) (bs : List Nat) (vs : List Value) (cs : Array Value) (hL : LS w p bs vs) (hb : bs.length < 1000000) :
    Calls Tryz.prog 38 #[.pointer (some ⟨p, 0, none⟩), .iface 54 (.agg cs)] w fun e w' =>
      (∃ a, e = .returned (.pointer a)) ∧ LS w' p (bs ++ [w.heap.size]) (vs ++ [.agg cs]) ∧ Below p w w' ∧ ∀ x, x < w.heap.size → x ≠ p → x ∉ bs → w'.heap[x]? = w.heap[x]? := by
  obtain ⟨q, hq⟩ : ∃ q, q = bs.getLastD p := ⟨_, rfl⟩
  have r0 := hL.r0
  have r1 := hL.r1
  have r4 := hL.r4
  have hp := hL.hp
  have f := hL.f
  rw [← hq] at r1
  obtain ⟨hq0, hqs, hpq, hqf⟩ := hL.last
  rw [← hq] at hq0 hqs hpq hqf
  have Hqb := Lib.hid (show q = p ∨ q ∈ bs by rw [hq]; exact lastD_mem bs p)
  have HL := Lib.hid hL; clear hL
  have Hq := Lib.hid hq; clear hq
  generalize bs.headD p = hd at *
  go_enter Tryz.func38, Tryz.ntmps38
  go_wp2
  go_end0
  go_wp2
  go_ret
  refine ⟨⟨_, rfl⟩, LS.push _ HL.out Hq.out hb, (((Below.refl _ _).setCell (by simpa using hpq) _ |>.setCell (by simp) _).setCell (by simp) _).alloc (by simp; omega) _, fun x hx hxp hxb => ?_⟩
  have hxq : x ≠ q := fun e => by
    rcases Hqb.out with h | h
    · exact hxp (e.trans h)
    · exact hxb (e ▸ h)
  rw [heap_alloc_old _ _ (by simpa using hx), Below.heap_setCell _ _ _ _ hxp, Below.heap_setCell _ _ _ _ hxp, Below.heap_setCell _ _ _ _ hxq]
/-- What is known of a list's elements: matrices, in blocks that are not the list's. -/
def LM (w : World) (B p : Nat) (bs : List Nat) (ms : List (List (List Int))) (vs : List Value) : Prop :=
  vs.length = ms.length ∧ ∀ (i : Nat) (m : List (List Int)), ms[i]? = some m → ∃ R cap p' q,
    vs[i]? = some (.agg #[.string mt, .float .f64 0, .string mt, .slice none 0 0, .slice (some ⟨R, 0, none⟩) m.length cap, .bool false, .string mt, .int .u8 4, .pointer (some ⟨p', 0, none⟩), .pointer (some ⟨q, 0, none⟩)]) ∧
    EF w (fun b => B ≤ b ∧ b ≠ p ∧ b ∉ bs) m (fmC R m.length cap p' q)
theorem LM.nil (w : World) (B p : Nat) : LM w B p [] [] [] := ⟨rfl, fun i m h => by simp at h⟩
theorem LM.kept {w w' : World} {B p : Nat} {bs : List Nat} {ms : List (List (List Int))} {vs : List Value} (h : LM w B p bs ms vs) (hf : ∀ b, b < w.heap.size → b ≠ p → b ∉ bs → w'.heap[b]? = w.heap[b]?) : LM w' B p bs ms vs := by
  refine ⟨h.1, fun i m hi => ?_⟩
  obtain ⟨R, cap, p', q, h1, h2⟩ := h.2 i m hi
  exact ⟨R, cap, p', q, h1, lie_ef.same h2 fun b hb hlt => hf b hlt hb.2.1 hb.2.2⟩
theorem LM.fr {w w' : World} {B p : Nat} {bs : List Nat} {ms : List (List (List Int))} {vs : List Value} (h : LM w B p bs ms vs) (hf : Fr w w') : LM w' B p bs ms vs := h.kept fun b hb _ _ => hf.block b hb
theorem LM.push {w w' : World} {B p : Nat} {bs : List Nat} {ms : List (List (List Int))} {vs : List Value} {m : List (List Int)} {R cap p' q : Nat} (h : LM w B p bs ms vs)
    (hm : EF w (fun b => B ≤ b ∧ b ≠ p ∧ b ∉ bs) m (fmC R m.length cap p' q)) (hf : ∀ b, b < w.heap.size → b ≠ p → b ∉ bs → w'.heap[b]? = w.heap[b]?) :
    LM w' B p (bs ++ [w.heap.size]) (ms ++ [m]) (vs ++ [.agg #[.string mt, .float .f64 0, .string mt, .slice none 0 0, .slice (some ⟨R, 0, none⟩) m.length cap, .bool false, .string mt, .int .u8 4, .pointer (some ⟨p', 0, none⟩), .pointer (some ⟨q, 0, none⟩)]]) := by
  have key : ∀ {m : List (List Int)} {c : List Value}, EF w (fun b => B ≤ b ∧ b ≠ p ∧ b ∉ bs) m c → EF w' (fun b => B ≤ b ∧ b ≠ p ∧ b ∉ bs ++ [w.heap.size]) m c := by
    intro m c hE
    refine lie_ef.mono (S := fun b => (B ≤ b ∧ b ≠ p ∧ b ∉ bs) ∧ b < w.heap.size) (lie_ef.same (lie_ef.cut hE) fun b hb hlt => hf b hlt hb.1.2.1 hb.1.2.2) fun b hb => ⟨hb.1.1, hb.1.2.1, ?_⟩
    simp only [List.mem_append, List.mem_singleton, not_or]
    exact ⟨hb.1.2.2, by omega⟩
  refine ⟨by simp [h.1], fun i m' hi => ?_⟩
  by_cases hl : i < ms.length
  · rw [List.getElem?_append_left hl] at hi
    obtain ⟨R1, cap1, p1, q1, h1, h2⟩ := h.2 i m' hi
    exact ⟨R1, cap1, p1, q1, by rw [List.getElem?_append_left (by rw [h.1]; exact hl)]; exact h1, key h2⟩
  · have hil : i = ms.length := by
      have := (List.getElem?_eq_some_iff.1 hi).1
      simp at this; omega
    subst hil
    rw [List.getElem?_append_right (Nat.le_refl _)] at hi
    simp at hi
    subst hi
    exact ⟨R, cap, p', q, by rw [← h.1, List.getElem?_append_right (Nat.le_refl _)]; simp, key hm⟩
set_option maxRecDepth 100000 in
set_option maxHeartbeats 2000000 in
theorem innerList_mats (S : Nat → Prop) (g cap : Nat) (ms : List (List (List Int))) (w : World) (hv : RowOf EI 4 w S g 0 ms) (h0 : 0 < ms.length) (h30 : ms.length ≤ 30) (hfit : ∀ m ∈ ms, Fit m) :
    Calls Tryz.prog 24 #[.slice (some ⟨g, 0, none⟩) ms.length cap] w fun e w' => ∃ p bs vs, e = .returned (.pointer (some ⟨p, 0, none⟩)) ∧ LS w' p bs vs ∧ LM w' w.heap.size p bs ms vs ∧ Fr w w' := by
  have Hv := Lib.hid hv; clear hv
  have HF := Lib.hid hfit; clear hfit
  obtain ⟨n, hn⟩ : ∃ n, n = ms.length := ⟨_, rfl⟩
  have Hn := Lib.hid hn
  rw [← hn] at h0 h30 ⊢
  clear hn
  go_enter Tryz.func24, Tryz.ntmps24
  go_wp2_with fail
  refine (New_any _).mono ?_
  rintro e w1 ⟨p, hp, rfl, hL, hf1⟩
  have HL := Lib.hid hL; clear hL
  have Hf1 := Lib.hid hf1; clear hf1
  go_wp2
  go_loopw [9] (fun i wr => ∃ k : Nat, k ≤ n ∧ i = .int .i64 k ∧ (∃ bs vs, LS wr p bs vs ∧ LM wr w.heap.size p bs (ms.take k) vs) ∧ Fr w wr) (fun i _ => n - (intOf i).toNat)
  case atStart => exact ⟨0, Nat.zero_le _, rfl, ⟨_, _, HL.out, by simpa using LM.nil _ _ _⟩, Hf1.out⟩
  case round =>
    obtain ⟨k, hk, rfl, ⟨bs, vs, hL, hM⟩, hf⟩ := hrel
    have HLr := Lib.hid hL; clear hL
    have HMr := Lib.hid hM; clear hM
    have hsz := hf.size
    by_cases hlt : k < n
    · have hkl : k < ms.length := by rw [← Hn.out]; exact hlt
      have hbl : bs.length = k := by have h1 := HLr.out.len; have h2 := HMr.out.1; rw [List.length_take] at h2; omega
      have Hbl := Lib.hid hbl; clear hbl
      obtain ⟨cs, ⟨c', rfl, R, capR, rfl, hrow⟩, hcs⟩ := (Hv.out.fr lie_ei hf).at hkl
      have hg : g < wr.heap.size := (Hv.out.fr lie_ei hf).lt
      have c0 := hcs 0 _ rfl
      have c1 := hcs 1 _ rfl
      have c2 := hcs 2 _ rfl
      have c3 := hcs 3 _ rfl
      simp only [Nat.zero_add, Nat.add_zero] at c0 c1 c2 c3
      clear hcs
      have hfm := Lib.hid (HF.out _ (List.getElem_mem hkl))
      have Hts := Lib.hid (take_next hkl)
      have Hrow := Lib.hid hrow; clear hrow
      have Hap := Lib.hid (fun (W : World) (S : Nat → Prop) (h : RowOf (ESl (ENum iN) 4) 1 W S R 0 (ms[k]'hkl)) => innerArg_mat R capR (ms[k]'hkl) W S h hfm.out)
      generalize ms[k] = m at *
      generalize hml : m.length = ml at *
      have Hml := Lib.hid hml; clear hml
      go_wp2_with fail
      refine (Hap.out _ S (Hrow.out.fr (lie_sl (lie_num iN) 4) ((Fr.refl _).alloc _))).mono ?_
      rintro e w2 ⟨R', cap', p', q', rfl, hE, hf2⟩
      have HE := Lib.hid (lie_ef.mono (S' := fun b => wr.heap.size + 1 ≤ b) hE (fun b h => by simpa using h)); clear hE
      have hf3 : Fr w w2 := (hf.alloc _).step hf2
      have hsz2 := hf2.size
      simp at hsz2
      have HL2 := Lib.hid ((HLr.out.fr ((Fr.refl _).alloc _)).fr hf2)
      have HM2 := Lib.hid ((HMr.out.fr ((Fr.refl _).alloc _)).fr hf2)
      have hbsl : bs.length < 1000000 := by rw [Hbl.out]; omega
      have Hbsl := Lib.hid hbsl; clear hbsl
      clear hf c0 c1 c2 c3
      go_wp2_with fail
      refine (PushBack_far _ p bs _ _ HL2.out Hbsl.out).mono ?_
      rintro e w3 ⟨⟨a, rfl⟩, hL3, hb3, hfar⟩
      have hf4 := hf3.tail hb3 hp
      have HL3 := Lib.hid hL3; clear hL3 hb3 hf3
      have hM3 := HM2.out.push (m := m) (R := R') (cap := cap') (p' := p') (q := q') (by rw [Hml.out]; exact lie_ef.mono HE.out fun b (h : wr.heap.size + 1 ≤ b) => ⟨by omega, by have := HLr.out.hp; omega, fun hb => by have := (HLr.out.hb b hb).2; omega⟩) hfar
      rw [← Hts.out, Hml.out] at hM3
      have HM3 := Lib.hid hM3; clear hM3 hfar
      go_wp2
      go_roundw
      case rel => exact ⟨k + 1, by omega, by simp, ⟨_, _, HL3.out, HM3.out⟩, hf4⟩
      case measure => simp [intOf]; omega
    · have hkn : k = n := by omega
      subst hkn
      have Hls := Lib.hid (show ms.take k = ms by rw [Hn.out, List.take_length])
      go_wp2
      go_ret
      exact ⟨p, bs, vs, rfl, HLr.out, by have := HMr.out; rwa [Hls.out] at this, hf⟩
end Go.Proofs.YtlhonpmpchkkfaaGreatDoor
/- A matrix's numbers in one row; the last element of a list. -/
namespace Go.Proofs.YtlhonpmpchkkfaaGreatDoor
open Go.RowKit
open Fl
open Ieee (double)
theorem flat_split {cs : Int → List Value} {sz : Nat} (hs : ∀ x, (cs x).length = sz) (h0 : 0 < sz) : ∀ (r : List Int) (j : Nat) (u : Value), (r.flatMap cs)[j]? = some u → ∃ x, r[j / sz]? = some x ∧ (cs x)[j % sz]? = some u := by
  intro r
  induction r with
  | nil => intro j u h; simp at h
  | cons x l ih =>
    intro j u h
    rw [List.flatMap_cons] at h
    by_cases hj : j < sz
    · rw [List.getElem?_append_left (by rw [hs]; exact hj)] at h
      rw [Nat.div_eq_of_lt hj, Nat.mod_eq_of_lt hj]
      exact ⟨x, rfl, h⟩
    · rw [List.getElem?_append_right (by rw [hs]; omega), hs] at h
      obtain ⟨y, h1, h2⟩ := ih _ _ h
      have e : j = (j - sz) + sz := by omega
      refine ⟨y, ?_, ?_⟩
      · rw [e, Nat.add_div_right _ h0]; simpa using h1
      · rw [e, Nat.add_mod_right]; exact h2
theorem RowOf.news {cs : Int → List Value} {sz : Nat} (hs : ∀ x, (cs x).length = sz) (h0 : 0 < sz) {w : World} {S : Nat → Prop} {g : Nat} {r : List Int} (h : RowOf (ENum cs) sz w S g 0 r) :
    ∀ j u, (r.flatMap cs)[j]? = some u → w.cell? ((⟨g, 0, none⟩ : Addr).add j) = some u := by
  intro j u hu
  obtain ⟨x, h1, h2⟩ := flat_split hs h0 r j u hu
  obtain ⟨c, t, z, hg, _, he⟩ := h
  obtain ⟨cs', e, h3⟩ := he _ _ h1
  have e' : cs' = cs x := e
  subst e'
  have := h3 _ _ h2
  rw [add_zero_off, Go.Lib.cell_of_heap hg]
  rw [show 0 + (j / sz * sz + j % sz) = j by have := Nat.div_add_mod j sz; rw [Nat.mul_comm] at this; omega] at this
  exact this
theorem RowOf.ofOwn {cs : Int → List Value} {sz : Nat} (hs : ∀ x, (cs x).length = sz) {w : World} {base : Nat} {t : TypeId} {v : Value} {xs : List Int} (h : w.ownsRow base t sz v xs.length (xs.flatMap cs)) (hn : 0 < xs.length) :
    ∃ g cap, v = .slice (some ⟨g, 0, none⟩) xs.length cap ∧ xs.length ≤ cap ∧ RowOf (ENum cs) sz w (fun b => base ≤ b) g 0 xs := by
  have ho : OR (ENum cs) w base t sz v xs (xs.map cs) := ⟨by simp, by rw [← List.flatMap_def]; exact h, fun i x hx => ⟨cs x, fun _ => False, by rw [List.getElem?_map, hx]; rfl, hs x, rfl, fun b hb => hb.elim⟩⟩
  obtain ⟨g, cap, e, hr⟩ := ho.done (lie_num cs) hn
  refine ⟨g, cap, e, ?_, hr⟩
  rcases h.2 with ⟨_, h0⟩ | ⟨g', cap', cur, e', _, _, hnc, _⟩
  · omega
  · rw [e] at e'
    simp only [Value.slice.injEq] at e'
    omega
theorem flat_len2 {cs : Int → List Value} {sz : Nat} (hs : ∀ x, (cs x).length = sz) : ∀ r : List Int, (r.flatMap cs).length = r.length * sz
  | [] => by simp
  | x :: l => by rw [List.flatMap_cons, List.length_append, hs, flat_len2 hs l, List.length_cons, Nat.succ_mul]; omega
theorem fN_len : ∀ x, (fN x).length = 10 := fun _ => rfl
theorem fN_one (r : List Int) : ∀ u ∈ r.flatMap fN, u.oneCell' = true := by
  intro u hu
  obtain ⟨x, _, h⟩ := List.mem_flatMap.1 hu
  exact oneCells (c := fN x) rfl u h
theorem flat_bound {m : List (List Int)} (hm : ∀ r ∈ m, r.length ≤ 30) : ∀ k, k ≤ m.length → (m.take k).flatten.length ≤ k * 30 := by
  intro k
  induction k with
  | zero => intro _; simp
  | succ k ih =>
    intro hk
    have h1 := ih (by omega)
    rw [List.take_succ_eq_append_getElem (by omega), List.flatten_append, List.length_append]
    have h2 := hm m[k] (List.getElem_mem (by omega))
    simp only [List.flatten_cons, List.flatten_nil, List.append_nil]
    omega
theorem flat_next {m : List (List Int)} {k : Nat} (hk : k < m.length) : (m.take (k + 1)).flatten = (m.take k).flatten ++ m[k] := by
  rw [List.take_succ_eq_append_getElem hk, List.flatten_append]; simp
theorem flat_pos {m : List (List Int)} (hm : Fit m) : 0 < m.flatten.length := by
  obtain ⟨h0, _, hr⟩ := hm
  match m, h0, hr with
  | r :: l, _, hr =>
    have := (hr r (by simp)).1
    rw [List.flatten_cons, List.length_append]; omega
set_option maxRecDepth 100000 in
set_option maxHeartbeats 4000000 in
theorem ToList_mat (R cap p q : Nat) (m : List (List Int)) (w : World) (S : Nat → Prop) (hv : RowOf (ESl (ENum fN) 10) 1 w S R 0 m) (hm : Fit m) :
    Calls Tryz.prog 40 #[.agg #[.string mt, .float .f64 0, .string mt, .slice none 0 0, .slice (some ⟨R, 0, none⟩) m.length cap, .bool false, .string mt, .int .u8 4, .pointer (some ⟨p, 0, none⟩), .pointer (some ⟨q, 0, none⟩)]] w fun e w' =>
      ∃ g cap', e = .returned (.slice (some ⟨g, 0, none⟩) m.flatten.length cap') ∧ m.flatten.length ≤ cap' ∧ RowOf (ENum fN) 10 w' (fun b => w.heap.size ≤ b) g 0 m.flatten ∧ Fr w w' := by
  have Hv := Lib.hid hv; clear hv
  have Hpos := Lib.hid (flat_pos hm)
  obtain ⟨h0, h30, hr⟩ := hm
  have HR := Lib.hid hr; clear hr
  have LF := lie_sl (lie_num fN) 10
  obtain ⟨i0, hi, hz0, hz1, hz2⟩ := info_parts Tryz.infoFa
  obtain ⟨n, hn⟩ : ∃ n, n = m.length := ⟨_, rfl⟩
  have Hn := Lib.hid hn
  rw [← hn] at h0 h30 ⊢
  clear hn
  have hRlt := Hv.out.lt
  go_enter Tryz.func40, Tryz.ntmps40
  go_wp2
  go_loopw [3, 13] (fun v i wr => ∃ k : Nat, k ≤ n ∧ i = .int .i64 k ∧ wr.ownsRow w.heap.size 54 10 v (m.take k).flatten.length ((m.take k).flatten.flatMap fN) ∧ Fr w wr) (fun _ i _ => n - (intOf i).toNat)
  case atStart => exact ⟨0, Nat.zero_le _, rfl, by simpa using World.ownsRow_nil _ _ _ _, (by repeat (first | (with_reducible exact Fr.refl _) | ((with_reducible refine Fr.set ?_ ?_ _); focus (simp; done)) | (with_reducible refine Fr.alloc ?_ _) | (with_reducible refine Fr.drew ?_) | (with_reducible refine Fr.step ?_ (by assumption))))⟩
  case round =>
    obtain ⟨k, hk, rfl, hown, hf⟩ := hrel
    have Hown := Lib.hid hown; clear hown
    have hsz := hf.size
    by_cases hlt : k < n
    · have hkl : k < m.length := by rw [← Hn.out]; exact hlt
      obtain ⟨cs, ⟨g1, cap1, rfl, hrow⟩, hcs⟩ := (Hv.out.fr LF hf).at hkl
      have c0 := hcs 0 _ rfl
      simp only [Nat.zero_add, Nat.add_zero, Nat.mul_one] at c0
      clear hcs
      obtain ⟨r0, r30, _⟩ := HR.out _ (List.getElem_mem hkl)
      have HRow := Lib.hid hrow; clear hrow
      have hts := flat_next hkl
      have hb := flat_bound (fun r h => (HR.out r h).2.1) k (by omega)
      generalize hmk : m[k] = r at *
      clear hmk
      obtain ⟨ys, hys⟩ : ∃ ys, ys = (m.take (k + 1)).flatten := ⟨_, rfl⟩
      rw [← hys] at hts
      have Hlen := Lib.hid (show ys.length = (m.take k).flatten.length + r.length by rw [hts, List.length_append])
      have Hts := Lib.hid (show ys.flatMap fN = (m.take k).flatten.flatMap fN ++ r.flatMap fN by rw [hts, List.flatMap_append])
      have Hys := Lib.hid hys
      clear hts hys
      generalize (m.take k).flatten = xs at *
      have lR : R < wr.heap.size := by omega
      go_wp2_with (at_builtin; refine wpList_append_lies _ rfl _ _ 49 rfl w.heap.size 54 i0 (fa 0 0 mt mt) 10 136 Tryz.underlying49 hi hz0 hz1 hz2 rfl (by decide) _ _ _ rfl Hown.out ⟨g1, 0, none⟩ r.length cap1 (r.flatMap fN) rfl (flat_len2 fN_len r) (HRow.out.news fN_len (by decide)) (fN_one r) r0 (by simp only [maxLen]; omega) (by omega) (by omega) _ rfl ?_)
      intro g5 cap5 w5 hown1 hgrow hat hlt5
      have hf5 : Fr w w5 := hf.grown hgrow (fun q h => (Hown.out.lt _ h).1)
      have Hown5 := Lib.hid (show w5.ownsRow w.heap.size 54 10 (.slice (some ⟨g5, 0, none⟩) (xs.length + r.length) cap5) ys.length (ys.flatMap fN) by rw [Hlen.out, Hts.out]; exact hown1)
      clear hown1 hgrow hat
      go_wp2
      go_roundw
      case rel => exact ⟨k + 1, by omega, by simp, by rw [← Hys.out]; exact Hown5.out, hf5⟩
      case measure => simp [intOf]; omega
    · have hkn : k = n := by omega
      subst hkn
      have hls : m.take k = m := by rw [Hn.out, List.take_length]
      have hown := Hown.out
      rw [hls] at hown
      obtain ⟨g2, c2, rfl, hcap, hrow⟩ := RowOf.ofOwn fN_len hown Hpos.out
      have Hrow := Lib.hid hrow
      have Hcap := Lib.hid hcap
      clear hrow hown hls Hown hcap
      go_wp2
      go_ret
      exact ⟨g2, c2, rfl, Hcap.out, Hrow.out, hf⟩
set_option maxRecDepth 100000 in
set_option maxHeartbeats 1000000 in
theorem Back_last (w : World) (p : Nat) (bs : List Nat) (vs : List Value) (hL : LS w p bs vs) (h0 : 0 < bs.length) :
    Calls Tryz.prog 32 #[.pointer (some ⟨p, 0, none⟩)] w fun e w' => e = .returned (.pointer (some ⟨bs.getLastD p, 0, none⟩)) ∧ w = w' := by
  have r4 := hL.r4
  have r1 := hL.r1
  have hl := hL.hl
  generalize bs.getLastD p = q at *
  generalize bs.length = n at *
  clear hL
  go_enter Tryz.func32, Tryz.ntmps32
  go_wp2
  go_ret
  exact ⟨rfl, rfl⟩
end Go.Proofs.YtlhonpmpchkkfaaGreatDoor
/- How many columns and rows a matrix came from. -/
namespace Go.Proofs.YtlhonpmpchkkfaaGreatDoor
open Go.RowKit
open Fl
open Ieee (double)
@[go_sem] theorem assert_cr (W : World) (v : Value) : (Instr.typeAssert (.iface 97 v) 20 97 false).run Tryz.prog W = .ok v W := by kernel_rfl
@[go_sem] theorem field_refs (W : World) (a0 a1 a2 a3 a4 a5 a6 a7 a8 a9 : Value) : (Instr.field 54 (.agg #[a0, a1, a2, a3, a4, a5, a6, a7, a8, a9]) 8).run Tryz.prog W = .ok a8 W := by kernel_rfl
@[go_sem] theorem field_ranges (W : World) (a0 a1 a2 a3 a4 a5 a6 a7 a8 a9 : Value) : (Instr.field 54 (.agg #[a0, a1, a2, a3, a4, a5, a6, a7, a8, a9]) 9).run Tryz.prog W = .ok a9 W := by kernel_rfl
@[go_sem] theorem field_from (W : World) (a0 a1 a2 a3 a4 a5 : Value) : (Instr.field 97 (.agg #[a0, a1, a2, a3, a4, a5]) 0).run Tryz.prog W = .ok (.agg #[a0, a1, a2]) W := by kernel_rfl
@[go_sem] theorem field_to (W : World) (a0 a1 a2 a3 a4 a5 : Value) : (Instr.field 97 (.agg #[a0, a1, a2, a3, a4, a5]) 1).run Tryz.prog W = .ok (.agg #[a3, a4, a5]) W := by kernel_rfl
set_option maxRecDepth 100000 in
set_option maxHeartbeats 1000000 in
theorem Len_cell (w : World) (q : Nat) (n : Int) (r4 : w.cell? ⟨q, 4, none⟩ = some (.int .i64 n)) :
    Calls Tryz.prog 29 #[.pointer (some ⟨q, 0, none⟩)] w fun e w' => e = .returned (.int .i64 n) ∧ w = w' := by
  go_enter Tryz.func29, Tryz.ntmps29
  go_wp2
  go_ret
  exact ⟨rfl, rfl⟩
set_option maxRecDepth 100000 in
set_option maxHeartbeats 1000000 in
theorem Front_cell (w : World) (q b : Nat) (r0 : w.cell? ⟨q, 0, none⟩ = some (.pointer (some ⟨b, 0, none⟩))) (r4 : w.cell? ⟨q, 4, none⟩ = some (.int .i64 1)) :
    Calls Tryz.prog 31 #[.pointer (some ⟨q, 0, none⟩)] w fun e w' => e = .returned (.pointer (some ⟨b, 0, none⟩)) ∧ w = w' := by
  go_enter Tryz.func31, Tryz.ntmps31
  go_wp2
  go_ret
  exact ⟨rfl, rfl⟩
def pickN (b : Bool) (x y : Int) : Int := if b then x else y
set_option maxRecDepth 100000 in
set_option maxHeartbeats 1000000 in
theorem getVal_any (b : Bool) (x y : Int) (s : ByteArray) (w : World) :
    Calls Tryz.prog 53 #[.bool b, .agg #[.int .i64 x, .int .i64 y, .string s]] w fun e w' => e = .returned (.int .i64 (pickN b x y)) ∧ Fr w w' := by
  cases b
  · go_enter Tryz.func53, Tryz.ntmps53
    go_wp2
    go_ret
    exact ⟨rfl, (by repeat (first | (with_reducible exact Fr.refl _) | ((with_reducible refine Fr.set ?_ ?_ _); focus (simp; done)) | (with_reducible refine Fr.alloc ?_ _) | (with_reducible refine Fr.drew ?_) | (with_reducible refine Fr.step ?_ (by assumption))))⟩
  · go_enter Tryz.func53, Tryz.ntmps53
    go_wp2
    go_ret
    exact ⟨rfl, (by repeat (first | (with_reducible exact Fr.refl _) | ((with_reducible refine Fr.set ?_ ?_ _); focus (simp; done)) | (with_reducible refine Fr.alloc ?_ _) | (with_reducible refine Fr.drew ?_) | (with_reducible refine Fr.step ?_ (by assumption))))⟩
set_option maxRecDepth 100000 in
set_option maxHeartbeats 4000000 in
theorem minmax_any (cols : Bool) (R cap p' q : Nat) (m : List (List Int)) (w : World) (p b : Nat) (S : Nat → Prop) (hL : LS w p [b] [.agg #[.string mt, .float .f64 0, .string mt, .slice none 0 0, .slice (some ⟨R, 0, none⟩) m.length cap, .bool false, .string mt, .int .u8 4, .pointer (some ⟨p', 0, none⟩), .pointer (some ⟨q, 0, none⟩)]])
    (hE : EF w S m (fmC R m.length cap p' q)) (hm : Fit m) :
    Calls Tryz.prog 41 #[.bool cols, .pointer (some ⟨p, 0, none⟩)] w fun e w' => e = .returned (.tuple #[.int .i64 1, .int .i64 (pickN cols ((m.headD []).length : Nat) (m.length : Nat))]) ∧ Fr w w' := by
  have HL := Lib.hid hL
  obtain ⟨R1, cap1, p1, q1, b1, e1, _, _, _, _, hp, hq, hb⟩ := hE
  simp [fmC] at e1
  obtain ⟨⟨rfl, rfl⟩, rfl, rfl⟩ := e1
  have hc0 : 0 < (m.headD []).length ∧ (m.headD []).length ≤ 30 := by
    obtain ⟨h0, _, hr⟩ := hm
    cases m with
    | nil => simp at h0
    | cons r l => exact ⟨(hr r (by simp)).1, (hr r (by simp)).2.1⟩
  have hr0 : 0 < m.length ∧ m.length ≤ 30 := ⟨hm.1, hm.2.1⟩
  generalize (m.headD []).length = cc at *
  generalize m.length = rr at *
  have c3 := (HL.out.el 0 b _ rfl rfl).2.2
  have hbs := (HL.out.hb b (by simp)).2
  have lq := block_lt hq
  have lb := block_lt hb
  have lp := block_lt hp
  obtain ⟨cq, _⟩ := obj_rules2 hq
  obtain ⟨cb, _⟩ := obj_rules2 hb
  obtain ⟨cp, _⟩ := obj_rules2 hp
  have q0 : w.cell? ⟨q, 0, none⟩ = some (.pointer (some ⟨b1, 0, none⟩)) := cq 0
  have q4 : w.cell? ⟨q, 4, none⟩ = some (.int .i64 1) := cq 4
  have b0 : w.cell? ⟨b1, 0, none⟩ = some (.pointer (some ⟨q, 0, none⟩)) := cb 0
  have b2 : w.cell? ⟨b1, 2, none⟩ = some (.pointer (some ⟨q, 0, none⟩)) := cb 2
  have b3 : w.cell? ⟨b1, 3, none⟩ = some (.iface 97 (.agg #[.int .i64 1, .int .i64 1, .string ⟨#[83, 104, 101, 101, 116, 49]⟩, .int .i64 cc, .int .i64 rr, .string ⟨#[83, 104, 101, 101, 116, 49]⟩])) := cb 3
  have p4 : w.cell? ⟨p', 4, none⟩ = some (.int .i64 0) := cp 4
  clear hL hp hq hb cq cb cp
  have hpk : pickN cols 1 1 = 1 := by cases cols <;> rfl
  obtain ⟨N, hN⟩ : ∃ N : Nat, (N : Int) = pickN cols cc rr := by cases cols; exact ⟨rr, rfl⟩; exact ⟨cc, rfl⟩
  have hN0 : 0 < N ∧ N ≤ 30 := by cases cols <;> simp [pickN] at hN <;> omega
  have HG := Lib.hid (fun w => getVal_any cols 1 1 ⟨#[83, 104, 101, 101, 116, 49]⟩ w)
  have HG2 := Lib.hid (fun w => getVal_any cols cc rr ⟨#[83, 104, 101, 101, 116, 49]⟩ w)
  rw [hpk] at HG
  rw [← hN] at HG2 ⊢
  clear hN hpk hc0 hr0
  obtain ⟨n0, n30⟩ := hN0
  have n0i : (0 : Int) < (N : Int) := by omega
  go_enter Tryz.func41, Tryz.ntmps41
  go_wp2_with fail
  refine (Front_any _ p b [] _ HL.out).mono ?_
  rintro e w1 ⟨rfl, rfl⟩
  go_wp2_with fail
  refine (Front_any _ p b [] _ HL.out).mono ?_
  rintro e w1 ⟨rfl, rfl⟩
  go_wp2_with fail
  refine (Len_cell _ q 1 q4).mono ?_
  rintro e w1 ⟨rfl, rfl⟩
  go_wp2_with fail
  refine (Front_any _ p b [] _ HL.out).mono ?_
  rintro e w1 ⟨rfl, rfl⟩
  go_wp2_with fail
  refine (Front_cell _ q b1 q0 q4).mono ?_
  rintro e w1 ⟨rfl, rfl⟩
  go_wp2
  go_loopw [8, 4, 5] (fun cr mn mx wr => ((cr = .pointer (some ⟨b1, 0, none⟩) ∧ mn = .int .i64 0 ∧ mx = .int .i64 0) ∨ (cr = .pointer none ∧ mn = .int .i64 1 ∧ mx = .int .i64 N)) ∧ Fr w wr) (fun cr _ _ _ => match cr with | .pointer none => 0 | _ => 1)
  case atStart => exact ⟨.inl ⟨rfl, rfl, rfl⟩, Fr.refl _⟩
  case round =>
    obtain ⟨⟨rfl, rfl, rfl⟩ | ⟨rfl, rfl, rfl⟩, hf⟩ := hrel
    · have hsz := hf.size
      replace b3 := (hf.cells.1 _ 3 lb).trans b3
      have lbr : b1 < wr.heap.size := by omega
      go_wp2_with fail
      refine (HG.out _).mono ?_
      rintro e w2 ⟨rfl, hf2⟩
      have hsz2 := hf2.size
      have b32 := (hf2.cells.1 _ 3 lbr).trans b3
      have lb2 : b1 < w2.heap.size := by omega
      go_wp2_with fail
      refine (HG2.out _).mono ?_
      rintro e w3 ⟨rfl, hf3⟩
      have hsz3 := hf3.size
      have b33 := (hf3.cells.1 _ 3 lb2).trans b32
      have lb3 : b1 < w3.heap.size := by omega
      go_wp2_with fail
      refine (HG2.out _).mono ?_
      rintro e w4 ⟨rfl, hf4⟩
      have hf5 : Fr w w4 := ((hf.step hf2).step hf3).step hf4
      have b04 := (hf5.cells.1 _ 0 lb).trans b0
      have b24 := (hf5.cells.1 _ 2 lb).trans b2
      clear b3 b32 b33
      go_wp2_with fail
      refine (Next_last _ q b1 b04 b24).mono ?_
      rintro e w5 ⟨rfl, rfl⟩
      go_wp2
      go_roundw
      case rel => exact ⟨.inr ⟨rfl, rfl, rfl⟩, hf5⟩
      case measure => simp
    · have HLr := Lib.hid (HL.out.fr hf)
      have c3r := (hf.cells.1 _ 3 hbs).trans c3
      have p4r := (hf.cells.1 _ 4 lp).trans p4
      clear c3 p4
      go_wp2_with fail
      refine (Front_any _ p b [] _ HLr.out).mono ?_
      rintro e w1 ⟨rfl, rfl⟩
      go_wp2_with fail
      refine (Front_any _ p b [] _ HLr.out).mono ?_
      rintro e w1 ⟨rfl, rfl⟩
      go_wp2_with fail
      refine (Len_cell _ p' 0 p4r).mono ?_
      rintro e w1 ⟨rfl, rfl⟩
      go_wp2
      go_ret2
      exact ⟨rfl, hf⟩
end Go.Proofs.YtlhonpmpchkkfaaGreatDoor
