import Derived.Test.YtcmpfcijockmhaaGreatDoorS26
set_option linter.unusedSimpArgs false
set_option linter.unusedVariables false
namespace Go.Proofs.YtcmpfcijockmhaaGreatDoor
open Go.RowKit
open Fl
open Ieee (double)
set_option maxRecDepth 100000 in
set_option maxHeartbeats 2000000 in
theorem doorFuncs_any (w : World) :
    Calls Tryz.prog 33 #[] w fun e w' => ∃ b, e = .returned (.pointer (some ⟨b, 0, none⟩)) ∧ Fr w w' := by
  go_enter Tryz.func33, Tryz.ntmps33
  go_wp2
  go_ret
  exact ⟨_, rfl, (by repeat (first | (with_reducible exact Fr.refl _) | ((with_reducible refine Fr.set ?_ ?_ _); focus (simp; done)) | (with_reducible refine Fr.alloc ?_ _) | (with_reducible refine Fr.drew ?_) | (with_reducible refine Fr.step ?_ (by assumption))))⟩
def txI (s : ByteArray) : IVal := ⟨2, 0, s⟩
def txA (x : IVal) : Array Value := #[.string mt, .float .f64 0, .string x.t, .slice none 0 0, .slice none 0 0, .bool false, .string mt, .int .u8 2, .pointer none, .pointer none]
theorem inner_txts {l : List IVal} (hl : ∀ x ∈ l, x = txI x.t) : ∀ x ∈ l, ∀ w, Calls Tryz.prog 52 #[x.v] w fun e w' => e = .returned (.agg (txA x)) ∧ Fr w w' := by
  intro x hx w
  rw [hl x hx]
  exact innerArg_text x.t w
theorem UNICODEm (f : Value) (w : World) (p : Nat) (bs : List Nat) (s : ByteArray) (R : Value) (k : Int) (x : Nat) (u : ByteArray) (hR : ∃ a b c d, R = fa a b c d)
    (hc : ∀ w, LS w p bs [fa 2 0 s mt] → Calls Tryz.prog 49 #[f, .string nmUNICODE, .pointer (some ⟨p, 0, none⟩)] w fun e w' => e = .returned R ∧ Fr w w')
    (hL : LS w p bs [fa 2 0 s mt]) :
    Calls Tryz.prog 34 #[f, .pointer (some ⟨p, 0, none⟩)] w fun e w' => e = .returned R ∧ Fr w w' := by
  obtain ⟨a, b, c, d, rfl⟩ := hR
  have HL := Lib.hid hL; clear hL
  have HC := Lib.hid hc; clear hc
  unfold nmUNICODE at HC
  go_enter Tryz.func34, Tryz.ntmps34
  go_wp2_with fail
  refine (HC.out _ (HL.out.fr (by repeat (first | (with_reducible exact Fr.refl _) | ((with_reducible refine Fr.set ?_ ?_ _); focus (simp; done)) | (with_reducible refine Fr.alloc ?_ _) | (with_reducible refine Fr.drew ?_) | (with_reducible refine Fr.step ?_ (by assumption)))))).mono ?_
  rintro e w1 ⟨rfl, hf1⟩
  have hlt1 := hf1.size
  simp at hlt1
  obtain ⟨hc1, hz1⟩ := hf1.cells
  simp at hc1 hz1
  have h01 : w.heap.size < w1.heap.size := by omega
  unfold fa
  go_wp2
  exact bodyPost_ret (v := .agg #[.string mt, .float .f64 b, .string c, .slice none 0 0, .slice none 0 0, .bool false, .string d, .int .u8 a, .pointer none, .pointer none]) (by simp [results, Tryz.results34, go_sem, sv, mt, *]) rfl ⟨rfl, (by repeat (first | (with_reducible exact Fr.refl _) | ((with_reducible refine Fr.set ?_ ?_ _); focus (simp; done)) | (with_reducible refine Fr.alloc ?_ _) | (with_reducible refine Fr.drew ?_) | (with_reducible refine Fr.step ?_ (by assumption))))⟩
set_option maxRecDepth 100000 in
set_option maxHeartbeats 2000000 in
theorem DoorLEN_any (A : Option Addr) (cap : Nat) (l : List IVal) (fv : IVal → Array Value) (w : World) (R : Value) (k : Int) (x : Nat) (u : ByteArray) (hv : IL w A l) (hl9 : l.length ≤ 999999)
    (hia : ∀ x ∈ l, ∀ w, Calls Tryz.prog 52 #[x.v] w fun e w' => e = .returned (.agg (fv x)) ∧ Fr w w')
    (hm : ∀ f w p bs, LS w p bs (l.map fun x => .agg (fv x)) → Calls Tryz.prog 36 #[.pointer (some ⟨f, 0, none⟩), .pointer (some ⟨p, 0, none⟩)] w fun e w' => e = .returned R ∧ Fr w w')
    (hd : ∀ w, Calls Tryz.prog 32 #[R] w fun e w' => e = .returned (iv k x u) ∧ Fr w w') :
    Calls Tryz.prog 25 #[.slice A l.length cap] w fun e w' => e = .returned (iv k x u) ∧ Fr w w' := by
  have Hv := Lib.hid hv; clear hv
  have Hi := Lib.hid hia; clear hia
  have Hm := Lib.hid hm; clear hm
  have Hd := Lib.hid hd; clear hd
  go_enter Tryz.func25, Tryz.ntmps25
  go_wp2_with fail
  refine (doorFuncs_any _).mono ?_
  rintro e w1 ⟨f, rfl, hf1⟩
  have hlt1 := hf1.size
  simp at hlt1
  obtain ⟨hc1, hz1⟩ := hf1.cells
  simp at hc1 hz1
  have h01 : w.heap.size < w1.heap.size := by omega
  go_wp2_with fail
  refine (innerList_any A cap l fv _ (Hv.out.fr (by repeat (first | (with_reducible exact Fr.refl _) | ((with_reducible refine Fr.set ?_ ?_ _); focus (simp; done)) | (with_reducible refine Fr.alloc ?_ _) | (with_reducible refine Fr.drew ?_) | (with_reducible refine Fr.step ?_ (by assumption))))) hl9 Hi.out).mono ?_
  rintro e w2 ⟨p, bs, rfl, hL, hf2⟩
  have HL := Lib.hid hL; clear hL
  have hlt2 := hf2.size
  obtain ⟨hc2, hz2⟩ := hf2.cells
  have h02 : w.heap.size < w2.heap.size := by omega
  go_wp2_with fail
  refine (Hm.out f _ p bs HL.out).mono ?_
  rintro e w3 ⟨rfl, hf3⟩
  have hlt3 := hf3.size
  obtain ⟨hc3, hz3⟩ := hf3.cells
  have h03 : w.heap.size < w3.heap.size := by omega
  go_wp2_with fail
  refine (Hd.out _).mono ?_
  rintro e w4 ⟨rfl, hf4⟩
  have hlt4 := hf4.size
  obtain ⟨hc4, hz4⟩ := hf4.cells
  have h04 : w.heap.size < w4.heap.size := by omega
  unfold iv
  go_wp2
  exact bodyPost_ret (v := .agg #[.int .i64 k, .float .f64 x, .string u, .slice none 0 0]) (by simp [results, Tryz.results25, go_sem, sv, mt, *]) rfl ⟨rfl, (by repeat (first | (with_reducible exact Fr.refl _) | ((with_reducible refine Fr.set ?_ ?_ _); focus (simp; done)) | (with_reducible refine Fr.alloc ?_ _) | (with_reducible refine Fr.drew ?_) | (with_reducible refine Fr.step ?_ (by assumption))))⟩
set_option maxRecDepth 100000 in
set_option maxHeartbeats 2000000 in
theorem implLEN_any (A : Option Addr) (cap : Nat) (l : List IVal) (w : World) (k : Int) (x : Nat) (u : ByteArray) (hv : IL w A l)
    (hd : ∀ A cap w, IL w A l → Calls Tryz.prog 25 #[.slice A l.length cap] w fun e w' => e = .returned (iv k x u) ∧ Fr w w') :
    Calls Tryz.prog 11 #[.slice A l.length cap] w fun e w' => e = .returned (iv k x u) ∧ Fr w w' := by
  have Hv := Lib.hid hv; clear hv
  have Hd := Lib.hid hd; clear hd
  go_enter Tryz.func11, Tryz.ntmps11
  go_wp2_with fail
  refine (in_any A cap l _ (Hv.out.fr (by repeat (first | (with_reducible exact Fr.refl _) | ((with_reducible refine Fr.set ?_ ?_ _); focus (simp; done)) | (with_reducible refine Fr.alloc ?_ _) | (with_reducible refine Fr.drew ?_) | (with_reducible refine Fr.step ?_ (by assumption)))))).mono ?_
  rintro e w1 ⟨A1, cap1, rfl, hI, hf1⟩
  have HI := Lib.hid hI; clear hI
  have hlt1 := hf1.size
  simp at hlt1
  obtain ⟨hc1, hz1⟩ := hf1.cells
  simp at hc1 hz1
  have h01 : w.heap.size < w1.heap.size := by omega
  go_wp2_with fail
  refine (Hd.out A1 cap1 _ HI.out).mono ?_
  rintro e w2 ⟨rfl, hf2⟩
  have hlt2 := hf2.size
  obtain ⟨hc2, hz2⟩ := hf2.cells
  have h02 : w.heap.size < w2.heap.size := by omega
  go_wp2_with fail
  refine (out_any k x u _).mono ?_
  rintro e w3 ⟨rfl, hf3⟩
  have hlt3 := hf3.size
  obtain ⟨hc3, hz3⟩ := hf3.cells
  have h03 : w.heap.size < w3.heap.size := by omega
  unfold iv
  go_wp2
  exact bodyPost_ret (v := .agg #[.int .i64 k, .float .f64 x, .string u, .slice none 0 0]) (by simp [results, Tryz.results11, go_sem, sv, mt, *]) rfl ⟨rfl, (by repeat (first | (with_reducible exact Fr.refl _) | ((with_reducible refine Fr.set ?_ ?_ _); focus (simp; done)) | (with_reducible refine Fr.alloc ?_ _) | (with_reducible refine Fr.drew ?_) | (with_reducible refine Fr.step ?_ (by assumption))))⟩
set_option maxRecDepth 100000 in
set_option maxHeartbeats 2000000 in
theorem DoorUNICODE_any (A : Option Addr) (cap : Nat) (l : List IVal) (fv : IVal → Array Value) (w : World) (R : Value) (k : Int) (x : Nat) (u : ByteArray) (hv : IL w A l) (hl9 : l.length ≤ 999999)
    (hia : ∀ x ∈ l, ∀ w, Calls Tryz.prog 52 #[x.v] w fun e w' => e = .returned (.agg (fv x)) ∧ Fr w w')
    (hm : ∀ f w p bs, LS w p bs (l.map fun x => .agg (fv x)) → Calls Tryz.prog 34 #[.pointer (some ⟨f, 0, none⟩), .pointer (some ⟨p, 0, none⟩)] w fun e w' => e = .returned R ∧ Fr w w')
    (hd : ∀ w, Calls Tryz.prog 32 #[R] w fun e w' => e = .returned (iv k x u) ∧ Fr w w') :
    Calls Tryz.prog 23 #[.slice A l.length cap] w fun e w' => e = .returned (iv k x u) ∧ Fr w w' := by
  have Hv := Lib.hid hv; clear hv
  have Hi := Lib.hid hia; clear hia
  have Hm := Lib.hid hm; clear hm
  have Hd := Lib.hid hd; clear hd
  go_enter Tryz.func23, Tryz.ntmps23
  go_wp2_with fail
  refine (doorFuncs_any _).mono ?_
  rintro e w1 ⟨f, rfl, hf1⟩
  have hlt1 := hf1.size
  simp at hlt1
  obtain ⟨hc1, hz1⟩ := hf1.cells
  simp at hc1 hz1
  have h01 : w.heap.size < w1.heap.size := by omega
  go_wp2_with fail
  refine (innerList_any A cap l fv _ (Hv.out.fr (by repeat (first | (with_reducible exact Fr.refl _) | ((with_reducible refine Fr.set ?_ ?_ _); focus (simp; done)) | (with_reducible refine Fr.alloc ?_ _) | (with_reducible refine Fr.drew ?_) | (with_reducible refine Fr.step ?_ (by assumption))))) hl9 Hi.out).mono ?_
  rintro e w2 ⟨p, bs, rfl, hL, hf2⟩
  have HL := Lib.hid hL; clear hL
  have hlt2 := hf2.size
  obtain ⟨hc2, hz2⟩ := hf2.cells
  have h02 : w.heap.size < w2.heap.size := by omega
  go_wp2_with fail
  refine (Hm.out f _ p bs HL.out).mono ?_
  rintro e w3 ⟨rfl, hf3⟩
  have hlt3 := hf3.size
  obtain ⟨hc3, hz3⟩ := hf3.cells
  have h03 : w.heap.size < w3.heap.size := by omega
  go_wp2_with fail
  refine (Hd.out _).mono ?_
  rintro e w4 ⟨rfl, hf4⟩
  have hlt4 := hf4.size
  obtain ⟨hc4, hz4⟩ := hf4.cells
  have h04 : w.heap.size < w4.heap.size := by omega
  unfold iv
  go_wp2
  exact bodyPost_ret (v := .agg #[.int .i64 k, .float .f64 x, .string u, .slice none 0 0]) (by simp [results, Tryz.results23, go_sem, sv, mt, *]) rfl ⟨rfl, (by repeat (first | (with_reducible exact Fr.refl _) | ((with_reducible refine Fr.set ?_ ?_ _); focus (simp; done)) | (with_reducible refine Fr.alloc ?_ _) | (with_reducible refine Fr.drew ?_) | (with_reducible refine Fr.step ?_ (by assumption))))⟩
set_option maxRecDepth 100000 in
set_option maxHeartbeats 2000000 in
theorem implUNICODE_any (A : Option Addr) (cap : Nat) (l : List IVal) (w : World) (k : Int) (x : Nat) (u : ByteArray) (hv : IL w A l)
    (hd : ∀ A cap w, IL w A l → Calls Tryz.prog 23 #[.slice A l.length cap] w fun e w' => e = .returned (iv k x u) ∧ Fr w w') :
    Calls Tryz.prog 9 #[.slice A l.length cap] w fun e w' => e = .returned (iv k x u) ∧ Fr w w' := by
  have Hv := Lib.hid hv; clear hv
  have Hd := Lib.hid hd; clear hd
  go_enter Tryz.func9, Tryz.ntmps9
  go_wp2_with fail
  refine (in_any A cap l _ (Hv.out.fr (by repeat (first | (with_reducible exact Fr.refl _) | ((with_reducible refine Fr.set ?_ ?_ _); focus (simp; done)) | (with_reducible refine Fr.alloc ?_ _) | (with_reducible refine Fr.drew ?_) | (with_reducible refine Fr.step ?_ (by assumption)))))).mono ?_
  rintro e w1 ⟨A1, cap1, rfl, hI, hf1⟩
  have HI := Lib.hid hI; clear hI
  have hlt1 := hf1.size
  simp at hlt1
  obtain ⟨hc1, hz1⟩ := hf1.cells
  simp at hc1 hz1
  have h01 : w.heap.size < w1.heap.size := by omega
  go_wp2_with fail
  refine (Hd.out A1 cap1 _ HI.out).mono ?_
  rintro e w2 ⟨rfl, hf2⟩
  have hlt2 := hf2.size
  obtain ⟨hc2, hz2⟩ := hf2.cells
  have h02 : w.heap.size < w2.heap.size := by omega
  go_wp2_with fail
  refine (out_any k x u _).mono ?_
  rintro e w3 ⟨rfl, hf3⟩
  have hlt3 := hf3.size
  obtain ⟨hc3, hz3⟩ := hf3.cells
  have h03 : w.heap.size < w3.heap.size := by omega
  unfold iv
  go_wp2
  exact bodyPost_ret (v := .agg #[.int .i64 k, .float .f64 x, .string u, .slice none 0 0]) (by simp [results, Tryz.results9, go_sem, sv, mt, *]) rfl ⟨rfl, (by repeat (first | (with_reducible exact Fr.refl _) | ((with_reducible refine Fr.set ?_ ?_ _); focus (simp; done)) | (with_reducible refine Fr.alloc ?_ _) | (with_reducible refine Fr.drew ?_) | (with_reducible refine Fr.step ?_ (by assumption))))⟩
set_option maxRecDepth 100000 in
set_option maxHeartbeats 2000000 in
theorem DoorCONCAT_any (A : Option Addr) (cap : Nat) (l : List IVal) (fv : IVal → Array Value) (w : World) (R : Value) (k : Int) (x : Nat) (u : ByteArray) (hv : IL w A l) (hl9 : l.length ≤ 999999)
    (hia : ∀ x ∈ l, ∀ w, Calls Tryz.prog 52 #[x.v] w fun e w' => e = .returned (.agg (fv x)) ∧ Fr w w')
    (hm : ∀ f w p bs, LS w p bs (l.map fun x => .agg (fv x)) → Calls Tryz.prog 39 #[.pointer (some ⟨f, 0, none⟩), .pointer (some ⟨p, 0, none⟩)] w fun e w' => e = .returned R ∧ Fr w w')
    (hd : ∀ w, Calls Tryz.prog 32 #[R] w fun e w' => e = .returned (iv k x u) ∧ Fr w w') :
    Calls Tryz.prog 28 #[.slice A l.length cap] w fun e w' => e = .returned (iv k x u) ∧ Fr w w' := by
  have Hv := Lib.hid hv; clear hv
  have Hi := Lib.hid hia; clear hia
  have Hm := Lib.hid hm; clear hm
  have Hd := Lib.hid hd; clear hd
  go_enter Tryz.func28, Tryz.ntmps28
  go_wp2_with fail
  refine (doorFuncs_any _).mono ?_
  rintro e w1 ⟨f, rfl, hf1⟩
  have hlt1 := hf1.size
  simp at hlt1
  obtain ⟨hc1, hz1⟩ := hf1.cells
  simp at hc1 hz1
  have h01 : w.heap.size < w1.heap.size := by omega
  go_wp2_with fail
  refine (innerList_any A cap l fv _ (Hv.out.fr (by repeat (first | (with_reducible exact Fr.refl _) | ((with_reducible refine Fr.set ?_ ?_ _); focus (simp; done)) | (with_reducible refine Fr.alloc ?_ _) | (with_reducible refine Fr.drew ?_) | (with_reducible refine Fr.step ?_ (by assumption))))) hl9 Hi.out).mono ?_
  rintro e w2 ⟨p, bs, rfl, hL, hf2⟩
  have HL := Lib.hid hL; clear hL
  have hlt2 := hf2.size
  obtain ⟨hc2, hz2⟩ := hf2.cells
  have h02 : w.heap.size < w2.heap.size := by omega
  go_wp2_with fail
  refine (Hm.out f _ p bs HL.out).mono ?_
  rintro e w3 ⟨rfl, hf3⟩
  have hlt3 := hf3.size
  obtain ⟨hc3, hz3⟩ := hf3.cells
  have h03 : w.heap.size < w3.heap.size := by omega
  go_wp2_with fail
  refine (Hd.out _).mono ?_
  rintro e w4 ⟨rfl, hf4⟩
  have hlt4 := hf4.size
  obtain ⟨hc4, hz4⟩ := hf4.cells
  have h04 : w.heap.size < w4.heap.size := by omega
  unfold iv
  go_wp2
  exact bodyPost_ret (v := .agg #[.int .i64 k, .float .f64 x, .string u, .slice none 0 0]) (by simp [results, Tryz.results28, go_sem, sv, mt, *]) rfl ⟨rfl, (by repeat (first | (with_reducible exact Fr.refl _) | ((with_reducible refine Fr.set ?_ ?_ _); focus (simp; done)) | (with_reducible refine Fr.alloc ?_ _) | (with_reducible refine Fr.drew ?_) | (with_reducible refine Fr.step ?_ (by assumption))))⟩
set_option maxRecDepth 100000 in
set_option maxHeartbeats 2000000 in
theorem implCONCAT_any (A : Option Addr) (cap : Nat) (l : List IVal) (w : World) (k : Int) (x : Nat) (u : ByteArray) (hv : IL w A l)
    (hd : ∀ A cap w, IL w A l → Calls Tryz.prog 28 #[.slice A l.length cap] w fun e w' => e = .returned (iv k x u) ∧ Fr w w') :
    Calls Tryz.prog 15 #[.slice A l.length cap] w fun e w' => e = .returned (iv k x u) ∧ Fr w w' := by
  have Hv := Lib.hid hv; clear hv
  have Hd := Lib.hid hd; clear hd
  go_enter Tryz.func15, Tryz.ntmps15
  go_wp2_with fail
  refine (in_any A cap l _ (Hv.out.fr (by repeat (first | (with_reducible exact Fr.refl _) | ((with_reducible refine Fr.set ?_ ?_ _); focus (simp; done)) | (with_reducible refine Fr.alloc ?_ _) | (with_reducible refine Fr.drew ?_) | (with_reducible refine Fr.step ?_ (by assumption)))))).mono ?_
  rintro e w1 ⟨A1, cap1, rfl, hI, hf1⟩
  have HI := Lib.hid hI; clear hI
  have hlt1 := hf1.size
  simp at hlt1
  obtain ⟨hc1, hz1⟩ := hf1.cells
  simp at hc1 hz1
  have h01 : w.heap.size < w1.heap.size := by omega
  go_wp2_with fail
  refine (Hd.out A1 cap1 _ HI.out).mono ?_
  rintro e w2 ⟨rfl, hf2⟩
  have hlt2 := hf2.size
  obtain ⟨hc2, hz2⟩ := hf2.cells
  have h02 : w.heap.size < w2.heap.size := by omega
  go_wp2_with fail
  refine (out_any k x u _).mono ?_
  rintro e w3 ⟨rfl, hf3⟩
  have hlt3 := hf3.size
  obtain ⟨hc3, hz3⟩ := hf3.cells
  have h03 : w.heap.size < w3.heap.size := by omega
  unfold iv
  go_wp2
  exact bodyPost_ret (v := .agg #[.int .i64 k, .float .f64 x, .string u, .slice none 0 0]) (by simp [results, Tryz.results15, go_sem, sv, mt, *]) rfl ⟨rfl, (by repeat (first | (with_reducible exact Fr.refl _) | ((with_reducible refine Fr.set ?_ ?_ _); focus (simp; done)) | (with_reducible refine Fr.alloc ?_ _) | (with_reducible refine Fr.drew ?_) | (with_reducible refine Fr.step ?_ (by assumption))))⟩
set_option maxRecDepth 100000 in
set_option maxHeartbeats 2000000 in
theorem DoorSWITCH_any (A : Option Addr) (cap : Nat) (l : List IVal) (fv : IVal → Array Value) (w : World) (R : Value) (k : Int) (x : Nat) (u : ByteArray) (hv : IL w A l) (hl9 : l.length ≤ 999999)
    (hia : ∀ x ∈ l, ∀ w, Calls Tryz.prog 52 #[x.v] w fun e w' => e = .returned (.agg (fv x)) ∧ Fr w w')
    (hm : ∀ f w p bs, LS w p bs (l.map fun x => .agg (fv x)) → Calls Tryz.prog 38 #[.pointer (some ⟨f, 0, none⟩), .pointer (some ⟨p, 0, none⟩)] w fun e w' => e = .returned R ∧ Fr w w')
    (hd : ∀ w, Calls Tryz.prog 32 #[R] w fun e w' => e = .returned (iv k x u) ∧ Fr w w') :
    Calls Tryz.prog 27 #[.slice A l.length cap] w fun e w' => e = .returned (iv k x u) ∧ Fr w w' := by
  have Hv := Lib.hid hv; clear hv
  have Hi := Lib.hid hia; clear hia
  have Hm := Lib.hid hm; clear hm
  have Hd := Lib.hid hd; clear hd
  go_enter Tryz.func27, Tryz.ntmps27
  go_wp2_with fail
  refine (doorFuncs_any _).mono ?_
  rintro e w1 ⟨f, rfl, hf1⟩
  have hlt1 := hf1.size
  simp at hlt1
  obtain ⟨hc1, hz1⟩ := hf1.cells
  simp at hc1 hz1
  have h01 : w.heap.size < w1.heap.size := by omega
  go_wp2_with fail
  refine (innerList_any A cap l fv _ (Hv.out.fr (by repeat (first | (with_reducible exact Fr.refl _) | ((with_reducible refine Fr.set ?_ ?_ _); focus (simp; done)) | (with_reducible refine Fr.alloc ?_ _) | (with_reducible refine Fr.drew ?_) | (with_reducible refine Fr.step ?_ (by assumption))))) hl9 Hi.out).mono ?_
  rintro e w2 ⟨p, bs, rfl, hL, hf2⟩
  have HL := Lib.hid hL; clear hL
  have hlt2 := hf2.size
  obtain ⟨hc2, hz2⟩ := hf2.cells
  have h02 : w.heap.size < w2.heap.size := by omega
  go_wp2_with fail
  refine (Hm.out f _ p bs HL.out).mono ?_
  rintro e w3 ⟨rfl, hf3⟩
  have hlt3 := hf3.size
  obtain ⟨hc3, hz3⟩ := hf3.cells
  have h03 : w.heap.size < w3.heap.size := by omega
  go_wp2_with fail
  refine (Hd.out _).mono ?_
  rintro e w4 ⟨rfl, hf4⟩
  have hlt4 := hf4.size
  obtain ⟨hc4, hz4⟩ := hf4.cells
  have h04 : w.heap.size < w4.heap.size := by omega
  unfold iv
  go_wp2
  exact bodyPost_ret (v := .agg #[.int .i64 k, .float .f64 x, .string u, .slice none 0 0]) (by simp [results, Tryz.results27, go_sem, sv, mt, *]) rfl ⟨rfl, (by repeat (first | (with_reducible exact Fr.refl _) | ((with_reducible refine Fr.set ?_ ?_ _); focus (simp; done)) | (with_reducible refine Fr.alloc ?_ _) | (with_reducible refine Fr.drew ?_) | (with_reducible refine Fr.step ?_ (by assumption))))⟩
set_option maxRecDepth 100000 in
set_option maxHeartbeats 2000000 in
theorem implSWITCH_any (A : Option Addr) (cap : Nat) (l : List IVal) (w : World) (k : Int) (x : Nat) (u : ByteArray) (hv : IL w A l)
    (hd : ∀ A cap w, IL w A l → Calls Tryz.prog 27 #[.slice A l.length cap] w fun e w' => e = .returned (iv k x u) ∧ Fr w w') :
    Calls Tryz.prog 13 #[.slice A l.length cap] w fun e w' => e = .returned (iv k x u) ∧ Fr w w' := by
  have Hv := Lib.hid hv; clear hv
  have Hd := Lib.hid hd; clear hd
  go_enter Tryz.func13, Tryz.ntmps13
  go_wp2_with fail
  refine (in_any A cap l _ (Hv.out.fr (by repeat (first | (with_reducible exact Fr.refl _) | ((with_reducible refine Fr.set ?_ ?_ _); focus (simp; done)) | (with_reducible refine Fr.alloc ?_ _) | (with_reducible refine Fr.drew ?_) | (with_reducible refine Fr.step ?_ (by assumption)))))).mono ?_
  rintro e w1 ⟨A1, cap1, rfl, hI, hf1⟩
  have HI := Lib.hid hI; clear hI
  have hlt1 := hf1.size
  simp at hlt1
  obtain ⟨hc1, hz1⟩ := hf1.cells
  simp at hc1 hz1
  have h01 : w.heap.size < w1.heap.size := by omega
  go_wp2_with fail
  refine (Hd.out A1 cap1 _ HI.out).mono ?_
  rintro e w2 ⟨rfl, hf2⟩
  have hlt2 := hf2.size
  obtain ⟨hc2, hz2⟩ := hf2.cells
  have h02 : w.heap.size < w2.heap.size := by omega
  go_wp2_with fail
  refine (out_any k x u _).mono ?_
  rintro e w3 ⟨rfl, hf3⟩
  have hlt3 := hf3.size
  obtain ⟨hc3, hz3⟩ := hf3.cells
  have h03 : w.heap.size < w3.heap.size := by omega
  unfold iv
  go_wp2
  exact bodyPost_ret (v := .agg #[.int .i64 k, .float .f64 x, .string u, .slice none 0 0]) (by simp [results, Tryz.results13, go_sem, sv, mt, *]) rfl ⟨rfl, (by repeat (first | (with_reducible exact Fr.refl _) | ((with_reducible refine Fr.set ?_ ?_ _); focus (simp; done)) | (with_reducible refine Fr.alloc ?_ _) | (with_reducible refine Fr.drew ?_) | (with_reducible refine Fr.step ?_ (by assumption))))⟩
end Go.Proofs.YtcmpfcijockmhaaGreatDoor
