import Derived.Test.YtollahofgcabpaaGreatDoorQ1
import Derived.Lib.Buffer
import Derived.Lib.BufferKept
import Derived.Lib.Strings
import Derived.Lib.ItoaWalk
set_option linter.unusedSimpArgs false
set_option linter.unusedVariables false
/- PROPER's walk, up to the buffer's two contracts. -/
namespace Go.Proofs.YtollahofgcabpaaGreatDoor
open Go.RowKit
/-- What the shelf says of a buffer's writers; of its text. -/
def WritesByte : Prop := ∀ (B b : Nat) (bs : List Value) (c : Int) (w : World), Lib.IsBuffer 72 5 B b bs w → B ≤ w.heap.size → (∀ v ∈ bs, v.oneCell' = true) → bs.length + 1 ≤ 140737488355328 →
  Calls Tryz.prog 40 #[.pointer (some ⟨b, 0, none⟩), .int .u8 c] w fun e w' => e = .returned .nilIface ∧ Lib.IsBuffer 72 5 B b (bs ++ [.int .u8 c]) w' ∧ Below B w w' ∧ Lib.OthersKept 5 (some b) w w'
def TellsBuf : Prop := ∀ (B b : Nat) (l : List UInt8) (w : World), Lib.IsBuffer 72 5 B b (Lib.byteCells l) w →
  Calls Tryz.prog 33 #[.pointer (some ⟨b, 0, none⟩)] w fun e w' => e = .returned (.string ⟨l.toArray⟩) ∧ ∃ n, w' = w.drewN n
set_option maxHeartbeats 2000000 in
set_option maxRecDepth 100000 in
theorem WriteRune_asc (hB : WritesByte) (B b : Nat) (bs : List Value) (r : Int) (h0 : 0 ≤ r) (h128 : r < 128) (w : World) (h : Lib.IsBuffer 72 5 B b bs w) (hBw : B ≤ w.heap.size) (h1 : ∀ v ∈ bs, v.oneCell' = true) (hlim : bs.length + 1 ≤ 140737488355328) :
    Calls Tryz.prog 29 #[.pointer (some ⟨b, 0, none⟩), .int .i32 r] w fun e w' => e = .returned (.tuple #[.int .i64 1, .nilIface]) ∧ Lib.IsBuffer 72 5 B b (bs ++ [.int .u8 r]) w' ∧ Below B w w' ∧ Lib.OthersKept 5 (some b) w w' := by
  have HB := Lib.hid hB; clear hB
  go_enter Tryz.func29, Tryz.ntmps29
  go_wp2_with fail
  refine (HB.out B b bs r _ h hBw h1 hlim).mono ?_
  rintro e W1 ⟨rfl, hI, hb, hk⟩
  go_wp2
  first | go_ret | go_ret2
  exact ⟨rfl, hI, hb, hk⟩
theorem byte_snoc (l : List UInt8) (c : UInt8) : Lib.byteCells (l ++ [c]) = Lib.byteCells l ++ [.int .u8 (c.toNat : Int)] := by
  unfold Lib.byteCells
  rw [List.map_append]; rfl
theorem prop_snoc (s : ByteArray) (k : Nat) (h : k < s.size) : Lib.byteCells ((prop false s.data.toList).take (k + 1)) = Lib.byteCells ((prop false s.data.toList).take k) ++ [.int .u8 ((propB (ilAt false s.data.toList k) s[k]).toNat : Int)] := by
  rw [prop_take _ k (by simpa using h), byte_snoc]
  rfl
theorem il_next (s : ByteArray) (k : Nat) (h : k < s.size) : ilAt false s.data.toList (k + 1) = isL s[k] := by
  show isL (s.data.toList.getD k 0) = isL s[k]
  rw [List.getD_eq_getElem?_getD, List.getElem?_eq_getElem (by simpa using h)]
  rfl
theorem low_all : ∀ k : Fin 128, (lowB (UInt8.ofNat k.val)).toNat < 128 ∧ (upB (UInt8.ofNat k.val)).toNat < 128 := by decide +kernel
theorem lowB_lt (c : UInt8) (h : c.toNat < 128) : (lowB c).toNat < 128 := by simpa using (low_all ⟨c.toNat, h⟩).1
theorem upB_lt (c : UInt8) (h : c.toNat < 128) : (upB c).toNat < 128 := by simpa using (low_all ⟨c.toNat, h⟩).2
theorem buf_fr {T e : TypeId} {B b : Nat} {bs : List Value} {w w' : World} (h : Lib.IsBuffer T e B b bs w) (hf : Fr w w') : Lib.IsBuffer T e B b bs w' := by
  have hlt := h.lt
  obtain ⟨hB, v, lr, hbk, hown, hne⟩ := h
  exact ⟨hB, v, lr, (hf.block b hlt).trans hbk, own_fr hown hf, hne⟩
set_option maxRecDepth 100000 in
set_option maxHeartbeats 6400000 in
theorem PROPERm_text (hB : WritesByte) (hS : TellsBuf) (f : Value) (w : World) (p : Nat) (bs : List Nat) (s : ByteArray) (hL : LS w p bs [fa 2 0 s mt]) (hs : s.size ≤ 1000) (ha : asc s.data.toList = true) (ht : LT w) :
    Calls Tryz.prog 21 #[f, .pointer (some ⟨p, 0, none⟩)] w fun e w' => e = .returned (fa 2 0 (propT s) mt) ∧ Fr w w' := by
  have Ha := Lib.hid (asc_lt ha); clear ha
  have hlen := hL.len
  match bs, hL, hlen with
  | [b], hL, _ =>
  have HL := Lib.hid hL; clear hL
  have HB := Lib.hid hB; clear hB
  have HS := Lib.hid hS; clear hS
  have Ht := Lib.hid ht; clear ht
  go_enter Tryz.func21, Tryz.ntmps21
  go_wp2_with fail
  refine (Len_any _ p [b] _ (HL.out.fr (by repeat (first | (with_reducible exact Fr.refl _) | ((with_reducible refine Fr.set ?_ ?_ _); focus (simp; done)) | (with_reducible refine Fr.alloc ?_ _) | (with_reducible refine Fr.drew ?_) | (with_reducible refine Fr.step ?_ (by assumption)))))).mono ?_
  rintro e w1 ⟨rfl, rfl⟩
  go_wp2_with fail
  refine (Front_any _ p b [] _ (HL.out.fr (by repeat (first | (with_reducible exact Fr.refl _) | ((with_reducible refine Fr.set ?_ ?_ _); focus (simp; done)) | (with_reducible refine Fr.alloc ?_ _) | (with_reducible refine Fr.drew ?_) | (with_reducible refine Fr.step ?_ (by assumption)))))).mono ?_
  rintro e w1 ⟨rfl, rfl⟩
  have c3 := (HL.out.el 0 b _ rfl rfl).2.2
  have hbs := (HL.out.hb b (by simp)).2
  go_wp2_with fail
  refine (Value_text 0 s mt _).mono ?_
  rintro e w1 ⟨rfl, hf1⟩
  have hI0 : Lib.IsBuffer 72 5 (w.heap.size + 1) (w.heap.size + 1) [] w1 := buf_fr (by simpa using Lib.fresh_isBuffer 72 5 (w.alloc (.cells #[.string ⟨#[]⟩, .float .f64 0, .string ⟨#[]⟩, .slice none 0 0, .slice none 0 0, .bool false, .string ⟨#[]⟩, .int .u8 0, .pointer none, .pointer none] 56))) hf1
  have hszw : w.heap.size + 1 < w1.heap.size := by have := hf1.size; simp at this; omega
  have hfw : Fr (w.alloc (.cells #[.string ⟨#[]⟩, .float .f64 0, .string ⟨#[]⟩, .slice none 0 0, .slice none 0 0, .bool false, .string ⟨#[]⟩, .int .u8 0, .pointer none, .pointer none] 56)) w1 := (by repeat (first | (with_reducible exact Fr.refl _) | ((with_reducible refine Fr.set ?_ ?_ _); focus (simp; done)) | (with_reducible refine Fr.alloc ?_ _) | (with_reducible refine Fr.drew ?_) | (with_reducible refine Fr.step ?_ (by assumption))))
  have hk0 := Lib.hid (World.iter_heap w1 s 0)
  have hIi := Lib.hid (show Lib.IsBuffer 72 5 (w.heap.size + 1) (w.heap.size + 1) [] (w1.iter s 0) from buf_fr hI0 ((Fr.refl _).alloc _))
  have hfi := Lib.hid (show Fr (w.alloc (.cells #[.string ⟨#[]⟩, .float .f64 0, .string ⟨#[]⟩, .slice none 0 0, .slice none 0 0, .bool false, .string ⟨#[]⟩, .int .u8 0, .pointer none, .pointer none] 56)) (w1.iter s 0) from hfw.alloc _)
  have Hil0 := Lib.hid (show ilAt false s.data.toList 0 = false from rfl)
  clear hf1 hI0 hfw c3 hbs
  go_wp2
  go_loopw [6] (fun v wr => ∃ pos : Nat, pos ≤ s.size ∧ v = .bool (ilAt false s.data.toList pos) ∧ wr.heap[w1.heap.size]? = some (.stringIter s pos) ∧ Lib.IsBuffer 72 5 (w.heap.size + 1) (w.heap.size + 1) (Lib.byteCells ((prop false s.data.toList).take pos)) wr ∧ Fr (w.alloc (.cells #[.string ⟨#[]⟩, .float .f64 0, .string ⟨#[]⟩, .slice none 0 0, .slice none 0 0, .bool false, .string ⟨#[]⟩, .int .u8 0, .pointer none, .pointer none] 56)) wr)
    (fun _ wr => s.size - wr.iterPos w1.heap.size)
  case atStart => exact ⟨0, Nat.zero_le _, rfl, hk0.out, by simpa [Lib.byteCells] using hIi.out, hfi.out⟩
  case round =>
    obtain ⟨pos, hps, rfl, hk, hI, hf⟩ := hrel
    clear hk0 hIi hfi
    by_cases hp : pos < s.size
    · have h128 := Ha.out pos hp
      have hsn := Lib.hid (prop_snoc s pos hp)
      have hil := Lib.hid (il_next s pos hp)
      have hnext : ∀ ty, (Instr.next (.pointer (some ⟨w1.heap.size, 0, none⟩)) true ty).run Tryz.prog wr = _ := fun ty => Lib.run_next_ascii_at wr w1.heap.size s pos ty hk hp h128
      have hI1 := hI.iterAt hk (pos + 1)
      have hk1 := Lib.iterAt_heap wr w1.heap.size s pos (pos + 1) hk
      have hf1 : Fr (w.alloc (.cells #[.string ⟨#[]⟩, .float .f64 0, .string ⟨#[]⟩, .slice none 0 0, .slice none 0 0, .bool false, .string ⟨#[]⟩, .int .u8 0, .pointer none, .pointer none] 56)) (wr.iterAt w1.heap.size s (pos + 1)) := Lib.below_iterAt hf (by simp; omega) s (pos + 1)
      have hmu : wr.iterPos w1.heap.size = pos := by simp [World.iterPos, hk]
      generalize wr.iterAt w1.heap.size s (pos + 1) = W1 at hnext hI1 hk1 hf1
      have hroom : (Lib.byteCells ((prop false s.data.toList).take pos)).length + 1 ≤ 140737488355328 := by
        rw [Lib.byteCells_length, List.length_take]; omega
      have hsz1 : w.heap.size + 1 ≤ W1.heap.size := by have := hI1.lt; omega
      have hne := Lib.hid (hI1.ne_iter hk1)
      have HI1 := Lib.hid hI1
      clear hI hI1 hf hk
      generalize ilAt false s.data.toList pos = il at *
      generalize s[pos]'hp = c at *
      have hT1 := Lib.hid ((Ht.out.fr ((Fr.refl w).alloc _)).fr hf1)
      cases il
      · cases hc : isL c
        · skip
          have hpb : propB false c = lowB c := by simp [propB, hc]
          rw [hpb] at hsn
          clear hpb
          have hlt : ((lowB c).toNat : Int) < 128 := by have := lowB_lt c h128; omega
          go_wp2_with (go_at_call 28; refine (IsLetter_b c _ h128 hT1.out).mono ?_; rintro e W2 ⟨rfl, rfl⟩)
          go_wp2_with (go_at_call 31; refine (ToLower_b c _ h128).mono ?_; rintro e W2 ⟨rfl, rfl⟩)
          go_wp2_with (go_at_call 29; refine (WriteRune_asc HB.out (w.heap.size + 1) (w.heap.size + 1) _ ((lowB c).toNat : Int) (by omega) hlt _ HI1.out hsz1 (Lib.byteCells_one _) hroom).mono ?_; rintro e W2 ⟨rfl, hI2, hb2, hkept⟩)
          have hk2 := hkept.iter hk1 hne.out
          have hf2 : Fr (w.alloc (.cells #[.string ⟨#[]⟩, .float .f64 0, .string ⟨#[]⟩, .slice none 0 0, .slice none 0 0, .bool false, .string ⟨#[]⟩, .int .u8 0, .pointer none, .pointer none] 56)) W2 := Below.trans hf1 (below_le hb2 (by simp))
          have hT2 := Lib.hid ((Ht.out.fr ((Fr.refl w).alloc _)).fr hf2)
          rw [← hsn.out] at hI2
          have HI2 := Lib.hid hI2; clear hI2 hb2 hkept
          go_wp2_with (go_at_call 28; refine (IsLetter_b c _ h128 hT2.out).mono ?_; rintro e W3 ⟨rfl, rfl⟩)
          go_wp2
          go_roundw
          case rel => exact ⟨pos + 1, by omega, by first | (rw [hil.out]; done) | (rw [hil.out, hc]; done) | simp [hil.out, hc], hk2, HI2.out, hf2⟩
          case measure =>
            have hmu2 : W2.iterPos w1.heap.size = pos + 1 := by simp [World.iterPos, hk2]
            rw [hmu, hmu2]
            omega
        · skip
          have hpb : propB false c = upB c := by simp [propB, hc]
          rw [hpb] at hsn
          clear hpb
          have hlt : ((upB c).toNat : Int) < 128 := by have := upB_lt c h128; omega
          go_wp2_with (go_at_call 28; refine (IsLetter_b c _ h128 hT1.out).mono ?_; rintro e W2 ⟨rfl, rfl⟩)
          go_wp2_with (go_at_call 30; refine (ToUpper_b c _ h128).mono ?_; rintro e W2 ⟨rfl, rfl⟩)
          go_wp2_with (go_at_call 29; refine (WriteRune_asc HB.out (w.heap.size + 1) (w.heap.size + 1) _ ((upB c).toNat : Int) (by omega) hlt _ HI1.out hsz1 (Lib.byteCells_one _) hroom).mono ?_; rintro e W2 ⟨rfl, hI2, hb2, hkept⟩)
          have hk2 := hkept.iter hk1 hne.out
          have hf2 : Fr (w.alloc (.cells #[.string ⟨#[]⟩, .float .f64 0, .string ⟨#[]⟩, .slice none 0 0, .slice none 0 0, .bool false, .string ⟨#[]⟩, .int .u8 0, .pointer none, .pointer none] 56)) W2 := Below.trans hf1 (below_le hb2 (by simp))
          have hT2 := Lib.hid ((Ht.out.fr ((Fr.refl w).alloc _)).fr hf2)
          rw [← hsn.out] at hI2
          have HI2 := Lib.hid hI2; clear hI2 hb2 hkept
          go_wp2_with (go_at_call 28; refine (IsLetter_b c _ h128 hT2.out).mono ?_; rintro e W3 ⟨rfl, rfl⟩)
          go_wp2
          go_roundw
          case rel => exact ⟨pos + 1, by omega, by first | (rw [hil.out]; done) | (rw [hil.out, hc]; done) | simp [hil.out, hc], hk2, HI2.out, hf2⟩
          case measure =>
            have hmu2 : W2.iterPos w1.heap.size = pos + 1 := by simp [World.iterPos, hk2]
            rw [hmu, hmu2]
            omega
      · have hc := Lib.hid (show isL c = isL c from rfl)
        have hpb : propB true c = lowB c := by simp [propB]
        rw [hpb] at hsn
        clear hpb
        have hlt : ((lowB c).toNat : Int) < 128 := by have := lowB_lt c h128; omega
        go_wp2_with (go_at_call 31; refine (ToLower_b c _ h128).mono ?_; rintro e W2 ⟨rfl, rfl⟩)
        go_wp2_with (go_at_call 29; refine (WriteRune_asc HB.out (w.heap.size + 1) (w.heap.size + 1) _ ((lowB c).toNat : Int) (by omega) hlt _ HI1.out hsz1 (Lib.byteCells_one _) hroom).mono ?_; rintro e W2 ⟨rfl, hI2, hb2, hkept⟩)
        have hk2 := hkept.iter hk1 hne.out
        have hf2 : Fr (w.alloc (.cells #[.string ⟨#[]⟩, .float .f64 0, .string ⟨#[]⟩, .slice none 0 0, .slice none 0 0, .bool false, .string ⟨#[]⟩, .int .u8 0, .pointer none, .pointer none] 56)) W2 := Below.trans hf1 (below_le hb2 (by simp))
        have hT2 := Lib.hid ((Ht.out.fr ((Fr.refl w).alloc _)).fr hf2)
        rw [← hsn.out] at hI2
        have HI2 := Lib.hid hI2; clear hI2 hb2 hkept
        go_wp2_with (go_at_call 28; refine (IsLetter_b c _ h128 hT2.out).mono ?_; rintro e W3 ⟨rfl, rfl⟩)
        go_wp2
        go_roundw
        case rel => exact ⟨pos + 1, by omega, by first | (rw [hil.out]; done) | (rw [hil.out, hc]; done) | simp [hil.out, hc], hk2, HI2.out, hf2⟩
        case measure =>
          have hmu2 : W2.iterPos w1.heap.size = pos + 1 := by simp [World.iterPos, hk2]
          rw [hmu, hmu2]
          omega
    · have hnext : ∀ ty, (Instr.next (.pointer (some ⟨w1.heap.size, 0, none⟩)) true ty).run Tryz.prog wr = _ := fun ty => Lib.run_next_end_at wr w1.heap.size s pos ty hk hp
      have hall : (prop false s.data.toList).take pos = prop false s.data.toList := List.take_of_length_le (by rw [prop_length]; simp; omega)
      rw [hall] at hI
      clear hall
      have HI := Lib.hid hI; clear hI hk
      go_wp2_with fail
      refine (HS.out (w.heap.size + 1) (w.heap.size + 1) (prop false s.data.toList) wr HI.out).mono ?_
      rintro e W2 ⟨rfl, n, rfl⟩
      have hf2 : Fr (w.alloc (.cells #[.string ⟨#[]⟩, .float .f64 0, .string ⟨#[]⟩, .slice none 0 0, .slice none 0 0, .bool false, .string ⟨#[]⟩, .int .u8 0, .pointer none, .pointer none] 56)) (wr.drewN n) := hf.drewN n
      rw [show (⟨(prop false s.data.toList).toArray⟩ : ByteArray) = propT s from rfl]
      generalize wr.drewN n = W2 at *
      go_wp2_with fail
      refine (newString_any (propT s) _).mono ?_
      rintro e W3 ⟨rfl, hf3⟩
      have hf4 : Fr (w.alloc (.cells #[.string ⟨#[]⟩, .float .f64 0, .string ⟨#[]⟩, .slice none 0 0, .slice none 0 0, .bool false, .string ⟨#[]⟩, .int .u8 0, .pointer none, .pointer none] 56)) W3 := hf2.step hf3
      have hlt3 := hf4.size
      simp at hlt3
      obtain ⟨hc3, hz3⟩ := hf4.cells
      simp at hc3 hz3
      have h03 : w.heap.size < W3.heap.size := by omega
      have hfw3 : Fr w W3 := ((Fr.refl w).alloc _).step hf4
      unfold fa
      go_wp2
      exact bodyPost_ret (v := .agg #[.string mt, .float .f64 0, .string (propT s), .slice none 0 0, .slice none 0 0, .bool false, .string mt, .int .u8 2, .pointer none, .pointer none]) (by simp [results, Tryz.results21, go_sem, sv, mt, *]) rfl ⟨rfl, (by repeat (first | (with_reducible exact Fr.refl _) | ((with_reducible refine Fr.set ?_ ?_ _); focus (simp; done)) | (with_reducible refine Fr.alloc ?_ _) | (with_reducible refine Fr.drew ?_) | (with_reducible refine Fr.step ?_ (by assumption))))⟩
end Go.Proofs.YtollahofgcabpaaGreatDoor
