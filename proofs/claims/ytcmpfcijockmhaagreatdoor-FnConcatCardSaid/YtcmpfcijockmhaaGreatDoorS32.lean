import Derived.Test.YtcmpfcijockmhaaGreatDoorS31
import Derived.Lib.Buffer
import Derived.Lib.BufferKept
set_option linter.unusedSimpArgs false
set_option linter.unusedVariables false
namespace Go.Proofs.YtcmpfcijockmhaaGreatDoor
open Go.RowKit
open Fl
open Ieee (double)
/-- What the shelf says of a buffer's writer; of its text. -/
def WritesBuf : Prop := ∀ (B b : Nat) (bs : List Value) (s : ByteArray) (w : World), Lib.IsBuffer 121 5 B b bs w → B ≤ w.heap.size → (∀ v ∈ bs, v.oneCell' = true) → bs.length + s.size ≤ 140737488355328 →
  Calls Tryz.prog 143 #[.pointer (some ⟨b, 0, none⟩), .string s] w fun e w' => e = .returned (.tuple #[.int .i64 s.size, .nilIface]) ∧ Lib.IsBuffer 121 5 B b (bs ++ Lib.byteCells s.data.toList) w' ∧ Below B w w'
def TellsBuf : Prop := ∀ (B b : Nat) (l : List UInt8) (w : World), Lib.IsBuffer 121 5 B b (Lib.byteCells l) w →
  Calls Tryz.prog 144 #[.pointer (some ⟨b, 0, none⟩)] w fun e w' => e = .returned (.string ⟨l.toArray⟩) ∧ ∃ n, w' = w.drewN n
theorem buf_fr {T e : TypeId} {B b : Nat} {bs : List Value} {w w' : World} (h : Lib.IsBuffer T e B b bs w) (hf : Fr w w') : Lib.IsBuffer T e B b bs w' := by
  have hlt := h.lt
  obtain ⟨hB, v, lr, hbk, hown, hne⟩ := h
  exact ⟨hB, v, lr, (hf.block b hlt).trans hbk, own_fr hown hf, hne⟩
theorem cat_bytes {l : List ByteArray} {k : Nat} (hk : k < l.length) : Lib.byteCells (cat (l.take k)).data.toList ++ Lib.byteCells l[k].data.toList = Lib.byteCells (cat (l.take (k + 1))).data.toList := by
  rw [← Lib.byteCells_append, cat_step hk]
  congr 1
theorem bytes_back (s : ByteArray) : (⟨s.data.toList.toArray⟩ : ByteArray) = s := by cases s; simp
/-- How far a walk along a list has come. -/
def ptrIx (bs : List Nat) (v : Value) : Nat := match v with
  | .pointer (some a) => bs.idxOf a.block
  | _ => bs.length
theorem ptrIx_at {bs : List Nat} (h : bs.Nodup) (k : Nat) (hk : k ≤ bs.length) : ptrIx bs (ptrAt bs k) = k := by
  by_cases hlt : k < bs.length
  · unfold ptrAt
    rw [List.getElem?_eq_getElem hlt]
    show bs.idxOf bs[k] = k
    first
    | exact List.Nodup.idxOf_getElem h k hlt
    | exact h.idxOf_getElem k hlt
    | simp [List.idxOf_getElem, h]
  · have : ptrAt bs k = .pointer none := by unfold ptrAt; rw [List.getElem?_eq_none (by omega)]
    rw [this]
    show bs.length = k
    omega
theorem Front_ptr (w : World) (p : Nat) (bs : List Nat) (vs : List Value) (hL : LS w p bs vs) (h0 : 0 < bs.length) :
    Calls Tryz.prog 57 #[.pointer (some ⟨p, 0, none⟩)] w fun e w' => e = .returned (ptrAt bs 0) ∧ w = w' := by
  match bs, hL, h0 with
  | b :: bs, hL, _ => exact Front_any w p b bs vs hL
def txtFa (s : ByteArray) : Value := fa 2 0 s mt
set_option maxRecDepth 100000 in
set_option maxHeartbeats 4000000 in
theorem concat_texts (hW : WritesBuf) (hS : TellsBuf) (f : Value) (w : World) (p : Nat) (bs : List Nat) (l : List ByteArray) (hL : LS w p bs (l.map txtFa)) (hn : 0 < l.length) (ht : total l ≤ 20000) :
    Calls Tryz.prog 62 #[f, .pointer (some ⟨p, 0, none⟩)] w fun e w' => e = .returned (fa 2 0 (cat l) mt) ∧ Fr w w' := by
  have hlen : bs.length = l.length := by have := hL.len; simpa using this
  have HL := Lib.hid hL; clear hL
  have HW := Lib.hid hW; clear hW
  have HS := Lib.hid hS; clear hS
  have Ht := Lib.hid ht; clear ht
  obtain ⟨n, hnn⟩ : ∃ n, n = l.length := ⟨_, rfl⟩
  have Hn := Lib.hid hnn
  have Hbn := Lib.hid (show bs.length = n by rw [hlen, hnn])
  rw [← hnn] at hn
  clear hnn hlen
  have h0 : 0 < bs.length := by rw [Hbn.out]; exact hn
  have HB := Lib.hid (Lib.fresh_isBuffer 121 5 (w.alloc (.cells #[.string mt, .float .f64 0, .string mt, .slice none 0 0, .slice none 0 0, .bool false, .string mt, .int .u8 0, .pointer none, .pointer none] 63)))
  go_enter Tryz.func62, Tryz.ntmps62
  go_wp2_with fail
  refine (Front_ptr _ p bs _ (HL.out.fr (by repeat (first | (with_reducible exact Fr.refl _) | ((with_reducible refine Fr.set ?_ ?_ _); focus (simp; done)) | (with_reducible refine Fr.alloc ?_ _) | (with_reducible refine Fr.drew ?_) | (with_reducible refine Fr.step ?_ (by assumption))))) h0).mono ?_
  rintro e w1 ⟨rfl, rfl⟩
  go_wp2
  go_loopw [6] (fun v wr => ∃ k : Nat, k ≤ n ∧ v = ptrAt bs k ∧ Lib.IsBuffer 121 5 (w.heap.size + 1) (w.heap.size + 1) (Lib.byteCells (cat (l.take k)).data.toList) wr ∧
    Below (w.heap.size + 1) (w.alloc (.cells #[.string mt, .float .f64 0, .string mt, .slice none 0 0, .slice none 0 0, .bool false, .string mt, .int .u8 0, .pointer none, .pointer none] 63)) wr) (fun v wr => n - ptrIx bs v)
  case atStart => exact ⟨0, Nat.zero_le _, rfl, by simpa [cat, Lib.byteCells, mt] using HB.out, by have := (Fr.refl (w.alloc (.cells #[.string mt, .float .f64 0, .string mt, .slice none 0 0, .slice none 0 0, .bool false, .string mt, .int .u8 0, .pointer none, .pointer none] 63))).alloc (.cells #[.slice none 0 0, .int .i64 0, .int .i8 0] 121); (unfold Fr at this; rw [show (w.alloc (.cells #[.string mt, .float .f64 0, .string mt, .slice none 0 0, .slice none 0 0, .bool false, .string mt, .int .u8 0, .pointer none, .pointer none] 63)).heap.size = w.heap.size + 1 from by simp] at this; exact this)⟩
  case round =>
    obtain ⟨k, hk, rfl, hbuf, hb⟩ := hrel
    have HBr := Lib.hid hbuf; clear hbuf
    have hfw : Fr w wr := Below.trans ((Fr.refl w).alloc _) (below_le hb (by omega))
    by_cases hlt : k < n
    · have hkb : k < bs.length := by rw [Hbn.out]; exact hlt
      have hkl : k < l.length := by rw [← Hn.out]; exact hlt
      have hptr : ptrAt bs k = .pointer (some ⟨bs[k], 0, none⟩) := by unfold ptrAt; rw [List.getElem?_eq_getElem hkb]
      rw [hptr]
      have c3 := ((HL.out.fr hfw).el k _ _ (List.getElem?_eq_getElem hkb) (by rw [List.getElem?_map, List.getElem?_eq_getElem hkl]; rfl)).2.2
      clear hptr
      have hcb := Lib.hid (cat_bytes hkl)
      have hroom := Lib.hid (show (Lib.byteCells (cat (l.take k)).data.toList).length + l[k].size ≤ 140737488355328 by
        rw [Lib.byteCells_length, ← Lib.size_eq, cat_size l k (by omega)]
        have h1 := total_le (l := l) (k := k + 1) (by omega) Ht.out
        rw [total_step hkl] at h1
        omega)
      generalize hs : l[k] = s at *
      unfold txtFa at c3 
      go_wp2_with fail
      refine (ToList_text s _).mono ?_
      rintro e w2 ⟨g, rfl, hg0, hg, hf2, d0, d1, d2, d3, d4, d5, d6, d7, d8, d9⟩
      have HB2 := Lib.hid (buf_fr HBr.out hf2)
      have hb2 := Below.trans hb (below_le hf2 (show w.heap.size + 1 ≤ wr.heap.size by have := hb.size; simpa using this))
      clear hb c3
      go_wp2
      go_loopw [22] (fun i wq => (i = .int .i64 0 ∧ wq = w2) ∨ (i = .int .i64 1 ∧ Lib.IsBuffer 121 5 (w.heap.size + 1) (w.heap.size + 1) (Lib.byteCells (cat (l.take (k + 1))).data.toList) wq ∧
        Below (w.heap.size + 1) (w.alloc (.cells #[.string mt, .float .f64 0, .string mt, .slice none 0 0, .slice none 0 0, .bool false, .string mt, .int .u8 0, .pointer none, .pointer none] 63)) wq)) (fun i _ => 1 - (intOf i).toNat)
      case atStart => exact .inl ⟨rfl, rfl⟩
      case round =>
        rcases hrel with ⟨rfl, rfl⟩ | ⟨rfl, hB3, hb3⟩
        · go_wp2_with fail
          refine (Value_text 0 s mt _).mono ?_
          rintro e w3 ⟨rfl, hf3⟩
          have HB3 := Lib.hid (buf_fr (buf_fr HB2.out ((Fr.refl _).alloc _)) hf3)
          have hsz2 : w.heap.size + 1 ≤ wr.heap.size := by have := hb2.size; simpa using this
          have hb3 := Below.trans hb2 (below_le (((Fr.refl wr).alloc _).step hf3) hsz2)
          have hsz3 := hf3.size
          simp at hsz3
          clear hf3 d0 d1 d2 d3 d4 d5 d6 d7 d8 d9
          go_wp2_with fail
          refine (HW.out (w.heap.size + 1) (w.heap.size + 1) _ s _ HB3.out (by omega) (Lib.byteCells_one _) hroom.out).mono ?_
          rintro e w4 ⟨rfl, hB4, hb4⟩
          rw [hcb.out] at hB4
          have HB4 := Lib.hid hB4; clear hB4
          have hb5 := Below.trans hb3 hb4
          clear hb4
          go_wp2
          go_roundw
          case rel => exact .inr ⟨rfl, HB4.out, hb5⟩
          case measure => simp [intOf]
        · have HB3 := Lib.hid hB3; clear hB3
          have hfw3 := Lib.hid (show Fr w _ from Below.trans ((Fr.refl w).alloc _) (below_le hb3 (by omega)))
          go_wp2_with fail
          refine (Next_any _ p k bs _ (HL.out.fr hfw3.out) hkb).mono ?_
          rintro e w5 ⟨rfl, rfl⟩
          go_wp2
          go_roundw
          case rel => exact ⟨k + 1, by omega, rfl, HB3.out, hb3⟩
          case measure =>
            have e1 := ptrIx_at HL.out.nd k (by rw [Hbn.out]; omega)
            have e2 := ptrIx_at HL.out.nd (k + 1) (by rw [Hbn.out]; omega)
            have e3 : ptrAt bs k = .pointer (some ⟨bs[k], 0, none⟩) := by unfold ptrAt; rw [List.getElem?_eq_getElem hkb]
            rw [e3] at e1
            rw [e1, e2]
            omega
    · have hkn : k = n := by omega
      subst hkn
      have hptr : ptrAt bs k = .pointer none := by unfold ptrAt; rw [List.getElem?_eq_none (by rw [Hbn.out]; omega)]
      rw [hptr]
      clear hptr
      have Hall := Lib.hid (show l.take k = l by rw [Hn.out, List.take_length])
      obtain ⟨hcb, hzb⟩ := (show Fr (w.alloc (.cells #[.string mt, .float .f64 0, .string mt, .slice none 0 0, .slice none 0 0, .bool false, .string mt, .int .u8 0, .pointer none, .pointer none] 63)) wr from by simpa [Fr] using hb).cells
      simp at hcb hzb
      go_wp2_with fail
      refine (HS.out _ _ _ _ HBr.out).mono ?_
      rintro e w2 ⟨rfl, nd, rfl⟩
      rw [bytes_back, Hall.out]
      go_wp2_with fail
      refine (newString_any _ _).mono ?_
      rintro e w3 ⟨rfl, hf3⟩
      have hlt3 := hf3.size
      simp at hlt3
      have hszr := hb.size
      simp at hszr
      obtain ⟨hc3, hz3⟩ := hf3.cells
      simp at hc3 hz3
      have h03 : w.heap.size < wr.heap.size := by omega
      have h04 : w.heap.size < w3.heap.size := by omega
      have hfr : Fr w w3 := hfw.step (Fr.step ((Fr.refl wr).drewN nd) hf3)
      unfold fa
      go_wp2
      exact bodyPost_ret (v := .agg #[.string mt, .float .f64 0, .string (cat l), .slice none 0 0, .slice none 0 0, .bool false, .string mt, .int .u8 2, .pointer none, .pointer none]) (by simp [results, Tryz.results62, go_sem, sv, mt, *]) rfl ⟨rfl, (by repeat (first | (with_reducible exact Fr.refl _) | ((with_reducible refine Fr.set ?_ ?_ _); focus (simp; done)) | (with_reducible refine Fr.alloc ?_ _) | (with_reducible refine Fr.drew ?_) | (with_reducible refine Fr.step ?_ (by assumption))))⟩
end Go.Proofs.YtcmpfcijockmhaaGreatDoor
