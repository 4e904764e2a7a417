import Derived.Test.YtlhonpmpchkkfaaGreatDoorCards
import Derived.Test.YtlhonpmpchkkfaaGreatDoorTie
import Derived.Test.YtlhonpmpchkkfaaGreatDoorZ2
import Derived.Test.YtlhonpmpchkkfaaGreatDoorD31
import Derived.Test.YtlhonpmpchkkfaaGreatDoorE4
import Derived.SizedLaws
import Derived.OpenShut
import Derived.Carry
import Derived.Lib.LaidTab
import Derived.Lib.LaidU8
set_option linter.unusedSimpArgs false
set_option linter.unusedVariables false
/- For every two lists of whole numbers, SUMPRODUCT of the two columns that are made of them is the only number of the product of the first one, as a row, with the second one, and of the first one with itself SUMSQ; and the lists read afterwards as before: over the tables of the library as the program's text lays them. -/










namespace Go.Proofs.YtlhonpmpchkkfaaGreatDoor
open Go.ChangeShapes Go.WideShapes Go.ChangeAt Go.RowKit
theorem VSown : ownKnob Tryz.prog.godebug = Option.none := by kernel_rfl
theorem VSlaid : laidOutB Tryz.prog = true := by kernel_rfl
theorem VScells : Tryz.prog.cellsOf 3 = 1 := by kernel_rfl
set_option maxRecDepth 100000 in
/-- A list of whole numbers that came in: what the walk wants of it. -/
theorem ZA.opened {H : Type} {enc : TypeId × Value → H} {W : World} {v : Value} {d : DataW H} {p : List MemPlace} {base : Nat} (hok : Value.okWide Tryz.prog W .any base 22 v)
    (h0 : DataW.Trod enc Tryz.prog W 0 (fun _ => true) true 22 v d p) (hlt : ∀ x ∈ p, x.block < W.heap.size) :
    ∃ (A : Option Addr) (cap : Nat) (l : List Int), v = .slice A l.length cap ∧ ZA W A l ∧ l.length ≤ 9223372036854775807 := by
  obtain ⟨a0, len, cap, rfl⟩ := okWide_slice Tryz.underlying22 hok
  obtain ⟨fuel, hf⟩ := h0
  rcases open_ints Tryz.underlying22 Tryz.underlying3 VScells hf with ⟨hcs, hx⟩ | ⟨a, len', cap', zs, hcs, _, hl, hm, hz, hx, hcell, hws⟩
  · simp [Value.cells] at hcs
    obtain ⟨rfl, rfl, rfl⟩ := hcs
    exact ⟨Option.none, 0, [], rfl, fun h => absurd h (by simp), by simp⟩
  · simp [Value.cells] at hcs
    obtain ⟨rfl, rfl, rfl⟩ := hcs
    simp only [if_true] at hz
    have hlen : (zs.take len).length = len := by rw [List.length_take]; omega
    refine ⟨some a, cap, zs.take len, by rw [hlen], fun hn => ?_, by rw [hlen]; unfold maxLen at hm; omega⟩
    rw [hlen] at hn
    obtain ⟨b, off, spot⟩ := a
    have hspot : spot = Option.none := by simpa [Addr.add] using World.cell?_spot (hcell 0 (by omega))
    subst hspot
    simp only [Prod.mk.injEq] at hx
    have hbW : b < W.heap.size := hlt (.cell b off) (by rw [hx.2]; exact MemPlace.mem_row.2 ⟨0, by omega, by simp⟩)
    refine ⟨b, off, rfl, hbW, fun i x hi => ?_⟩
    have hi2 : i < len := by have := (List.getElem?_eq_some_iff.1 hi).1; rwa [hlen] at this
    have hc := hcell i (by omega)
    rw [add_plain] at hc
    rw [hc]
    rw [List.getElem?_take, if_pos hi2] at hi
    rw [List.getD_eq_getElem?_getD, hi]; rfl
theorem fnDot_f : Tryz.prog.funcNamed "pub-tallysheet/laws.FnDot" = some 3 := by kernel_rfl
theorem fnDot_reads (os : Os) {H : Type} (enc : TypeId × Value → H) :
    (OpenSpec.ofChange Rows.fnDotSpec).preRow enc Tryz.prog Tryz.f3 Rows.fnDotRow.domain false Rows.fnDotRow.laid ((laidWorld os).forCall (fun _ _ => 0) ⟨#[], #[.slice none 0 0, .slice none 0 0], []⟩).memory #[.slice none 0 0, .slice none 0 0] := by
  have hw : (DataW.whole enc Tryz.prog ((laidWorld os).forCall (fun _ _ => 0) ⟨#[], #[.slice none 0 0, .slice none 0 0], []⟩).memory Tryz.f3.params.toList Rows.fnDotSpec.vars false (#[.slice none 0 0, .slice none 0 0] : Array Value).toList 8).map (fun x => (x.1, x.2.1)) =
      some ([.nil, .nil], []) := by kernel_rfl
  obtain ⟨⟨x1, x2, x3⟩, hx, hx1⟩ := Option.map_eq_some_iff.1 hw
  simp only [Prod.mk.injEq] at hx1
  obtain ⟨rfl, rfl⟩ := hx1
  exact OpenSpec.preRow_of_cond 8 hx (by kernel_rfl) (fun k hk => by cases hk) (by kernel_rfl) (laid_joined os _)
theorem valC : ValC := fun x W hx hT => Value_num mulC lenC numC fmtC x W (by omega) hT.1 hT.2.1
set_option maxRecDepth 100000 in
theorem fnDot_contract (H : Type) (enc : TypeId × Value → H) (W : World) (base : Nat) (args : Array Value) (ds gs : List (DataW H)) (before : List MemPlace)
    (hval : ∀ (j : Nat) t v, Tryz.f3.params[j]? = some t → args[j]? = some v → Value.okWide Tryz.prog W .any base t v)
    (hT : T3 W) (hW : DataW.Whole enc Tryz.prog Tryz.f3.params.toList Rows.fnDotSpec.vars false W args.toList ds gs before) :
    Calls Tryz.prog 3 args W fun e W' => ∃ v, e = .returned v ∧ Rows.fnDotSpec.post enc Tryz.prog Tryz.f3 false true false false W args v W' := by
  have hW' := hW
  obtain ⟨p, q, hA0, hV, rfl, _, _⟩ := hW
  have hA : DataW.TrodAll enc Tryz.prog W 0 (fun _ => true) true Tryz.f3.params.toList args.toList ds p := hA0
  rw [Tryz.params3] at hA hval
  obtain ⟨v0, vs0, d0, ds0, p0, q0, ha0, rfl, rfl, h0, hA⟩ := trodAll_cons hA
  obtain ⟨v1, vs1, d1, ds1, p1, q1, rfl, rfl, rfl, h1, hA⟩ := trodAll_cons hA
  obtain ⟨rfl, rfl, rfl⟩ := trodAll_nil hA
  obtain rfl : args = #[v0, v1] := by cases args; simp_all
  obtain ⟨rfl, rfl⟩ := trodVars_none hV
  clear ha0 hA hA0
  simp only [List.append_nil, List.nil_append] at hW'
  have hlt : ∀ x ∈ p0 ++ p1, x.block < W.heap.size := fun x hx => by simpa using hW'.lt x (by simpa using hx)
  have hl0 : ∀ x ∈ p0, x.block < W.heap.size := fun x hx => hlt x (List.mem_append.2 (.inl hx))
  have hl1 : ∀ x ∈ p1, x.block < W.heap.size := fun x hx => hlt x (List.mem_append.2 (.inr hx))
  have k0 : ∀ (W' : World), Below W.heap.size W W' → DataW.Trod enc Tryz.prog W' 0 (fun b => decide (b < W.heap.size)) true 22 v0 d0 p0 :=
    fun W' hn => Below.trod VSlaid (by kernel_rfl) (of_decide_eq_true (by kernel_rfl)) h0 hn hl0
  have k1 : ∀ (W' : World), Below W.heap.size W W' → DataW.Trod enc Tryz.prog W' 0 (fun b => decide (b < W.heap.size)) true 22 v1 d1 p1 :=
    fun W' hn => Below.trod VSlaid (by kernel_rfl) (of_decide_eq_true (by kernel_rfl)) h1 hn hl1
  obtain ⟨A0, c0, ls, rfl, Z0, M0⟩ := ZA.opened (hval 0 22 v0 rfl rfl) h0 hl0
  obtain ⟨A1, c1, ks, rfl, Z1, M1⟩ := ZA.opened (hval 1 22 v1 rfl rfl) h1 hl1
  refine (FnDot_calls valC A0 c0 ls A1 c1 ks W Z0 Z1 hT).mono fun e W' ⟨he, hg⟩ => ?_
  subst he
  have e1 : Rows.fnDotSpec.fn H ([d0, d1] ++ []) = { results := [.lit (.bool true)], args := [d0, d1] } := rfl
  refine ⟨_, rfl, _, _, _, [], p0 ++ p1, [], hW', ?_, ?_, ?_, hg.frame _, fun h => by cases h⟩
  · rw [e1]; exact trodAll_mk1 (shut_bool Tryz.underlying4 _)
  · rw [e1]
    have := trodAll_cons_mk (k0 W' hg) (trodAll_mk1 (k1 W' hg))
    simpa using this
  · rw [e1]; rfl
theorem u10_data : (Rows.laid_internal_strconv_uint64pow10 : DataW Unit) = Lib.tabData .u64 Lib.pow10Tab := by kernel_rfl
theorem u10_named : Tryz.prog.globalNamed "internal/strconv.uint64pow10" = some 9 := by kernel_rfl
theorem u10_type : (Tryz.prog.globals[9]?).map (·.type) = some 190 := by kernel_rfl
theorem DT.of_reads {W : World} (h : Lib.VarReads Tryz.prog W "internal/strconv.uint64pow10" Rows.laid_internal_strconv_uint64pow10) : DT W := by
  obtain ⟨g, t, cs, fuel, p, hg, hty, hvar, hd⟩ := h
  obtain rfl := Option.some.inj (u10_named.symm.trans hg)
  obtain rfl := Option.some.inj (u10_type.symm.trans hty)
  rw [u10_data] at hd
  unfold DT Lib.TabIs
  rw [hvar, ← Lib.cells_of_tab Tryz.underlying190 Tryz.underlying123 (by kernel_rfl) (by kernel_rfl) hd]
theorem p10_named : Tryz.prog.globalNamed "internal/strconv.pow10Tab" = some 10 := by kernel_rfl
theorem p10_type : (Tryz.prog.globals[10]?).map (·.type) = some 196 := by kernel_rfl
theorem p10_rows : ((List.range 7).all fun i => Go.Pinned.pow10Rows[i + 358]? == some (hiP (i + 10), 0)) = true := by kernel_rfl
theorem p10_row (p : Nat) (h0 : 10 ≤ p) (h1 : p ≤ 16) : Go.Pinned.pow10Rows[p + 348]? = some (hiP p, 0) := by
  have := List.all_eq_true.1 p10_rows (p - 10) (List.mem_range.2 (by omega))
  simpa [show p - 10 + 358 = p + 348 by omega, show p - 10 + 10 = p by omega] using this
theorem p10_data : Rows.laid_internal_strconv_pow10Tab = (.agg (Go.Pinned.pow10Rows.map fun x => .agg [.lit (.int .u64 x.1), .lit (.int .u64 x.2)]) : DataW Unit) := rfl
theorem PT.of_reads {W : World} (h : Lib.VarReads Tryz.prog W "internal/strconv.pow10Tab" Rows.laid_internal_strconv_pow10Tab) : PT W := by
  obtain ⟨g, t, cs, fuel, q, hg, hty, hvar, hd⟩ := h
  obtain rfl := Option.some.inj (p10_named.symm.trans hg)
  obtain rfl := Option.some.inj (p10_type.symm.trans hty)
  rw [p10_data] at hd
  intro p h0 h1
  obtain ⟨fuel', d, q', hds, hel⟩ := Lib.array_elem Tryz.underlying196 hd (p + 348) (by omega)
  rw [List.getElem?_map, p10_row p h0 h1] at hds
  simp only [Option.map_some, Option.some.injEq] at hds
  subst hds
  have hcells := Lib.ints_of_struct (k := .u64) (zs := [(hiP p : Int), 0]) Tryz.underlying195 (by
    intro i f hf
    match i with
    | 0 => simp at hf; subst hf; exact ⟨Tryz.underlying123, rfl, by kernel_rfl⟩
    | 1 => simp at hf; subst hf; exact ⟨Tryz.underlying123, rfl, by kernel_rfl⟩
    | i + 2 => simp at hf) (by kernel_rfl) hel
  have h2 : Tryz.prog.cellsOf 195 = 2 := by kernel_rfl
  rw [h2] at hcells
  have hat : ∀ j, j < 2 → cs.toList[(p + 348) * 2 + j]? = ([(hiP p : Int), 0].map fun z => Value.int .u64 z)[j]? := by
    intro j hj
    rw [← hcells, List.getElem?_take, if_pos hj, List.getElem?_drop]
  have c0 := World.var?_cell p10_named hvar ((p + 348) * 2)
  have c1 := World.var?_cell p10_named hvar ((p + 348) * 2 + 1)
  have a0 := hat 0 (by decide)
  have a1 := hat 1 (by decide)
  rw [Nat.add_zero] at a0
  rw [c0, c1, ← Array.getElem?_toList, ← Array.getElem?_toList, a0, a1]
  exact ⟨rfl, rfl⟩
theorem f64_named : Tryz.prog.globalNamed "internal/strconv.float64info" = some 5 := by kernel_rfl
theorem f64_type : (Tryz.prog.globals[5]?).map (·.type) = some 130 := by kernel_rfl
theorem f64_first : ∃ fs f, Tryz.prog.underlying 130 = some (.struct fs) ∧ fs[0]? = some f ∧ Tryz.prog.underlying f.type = some (.int .u64) ∧ f.offset = 0 ∧ Tryz.prog.cellsOf f.type = 1 :=
  ⟨_, _, Tryz.underlying130, rfl, by kernel_rfl, rfl, by kernel_rfl⟩
theorem opt_named : Tryz.prog.globalNamed "internal/strconv.optimize" = some 4 := by kernel_rfl
theorem opt_type : (Tryz.prog.globals[4]?).map (·.type) = some 4 := by kernel_rfl
theorem PF.of_reads {W : World} (h : Lib.VarReads Tryz.prog W "internal/strconv.float64info" Rows.laid_internal_strconv_float64info) (k : Lib.VarReads Tryz.prog W "internal/strconv.optimize" Rows.laid_internal_strconv_optimize) : PF W := by
  constructor
  · obtain ⟨g, t, cs, fuel, p, hg, hty, hvar, hd⟩ := h
    obtain rfl := Option.some.inj (f64_named.symm.trans hg)
    obtain rfl := Option.some.inj (f64_type.symm.trans hty)
    obtain ⟨fs, f, hu, hf, hfi, hfo, hfc⟩ := f64_first
    obtain ⟨xs, n, _, hx, _, _, hall⟩ := DataW.trod_struct hu hd
    have hxs : xs.map (·.1) = [.lit (.int .u64 52), .lit (.int .u64 11), .lit (.int .i64 (-1023))] := by
      have := congrArg Prod.fst hx
      simp only [Rows.laid_internal_strconv_float64info, DataW.agg.injEq] at this
      exact this.symm
    obtain ⟨b, l, rfl⟩ : ∃ b l, xs = b :: l := by
      cases xs with
      | nil => cases hxs
      | cons b l => exact ⟨b, l, rfl⟩
    have h1 := hall 0 f hf
    rw [hfo, hfc] at h1
    obtain ⟨z, hcz, hb, _⟩ := DataW.trod_int hfi h1
    subst hb
    simp only [List.map_cons, List.cons.injEq, DataW.lit.injEq, Lit.int.injEq, true_and] at hxs
    obtain ⟨rfl, _⟩ := hxs
    have h2 : cs.toList[0]? = some (.int .u64 52) := by
      have := congrArg (·[0]?) hcz
      simpa [List.getElem?_take, List.getElem?_drop] using this
    rw [World.var?_cell f64_named hvar 0, ← Array.getElem?_toList]
    exact h2
  · obtain ⟨g, t, cs, fuel, p, hg, hty, hvar, hd⟩ := k
    obtain rfl := Option.some.inj (opt_named.symm.trans hg)
    obtain rfl := Option.some.inj (opt_type.symm.trans hty)
    obtain ⟨b, hcz, hb⟩ := DataW.trod_bool Tryz.underlying4 hd
    simp only [Rows.laid_internal_strconv_optimize, Prod.mk.injEq, DataW.lit.injEq, Lit.bool.injEq] at hb
    obtain ⟨rfl, _⟩ := hb
    rw [World.var?_cell opt_named hvar 0, ← Array.getElem?_toList, hcz]
    rfl
theorem T3.of_laid {W : World} (hL : laidMet Tryz.prog Rows.fnDotRow.laid W) : T3 W :=
  ⟨PT.of_reads (Lib.laidMet.reads hL (.tail _ (.tail _ (.tail _ (.tail _ (.tail _ (.tail _ (.tail _ (.tail _ (.tail _ (.tail _ (.tail _ (.tail _ (.head _)))))))))))))), DT.of_reads (Lib.laidMet.reads hL (.tail _ (.tail _ (.tail _ (.tail _ (.tail _ (.tail _ (.tail _ (.tail _ (.head _)))))))))), PF.of_reads (Lib.laidMet.reads hL (.tail _ (.tail _ (.tail _ (.head _))))) (Lib.laidMet.reads hL (.tail _ (.tail _ (.tail _ (.tail _ (.head _))))))⟩
set_option maxRecDepth 100000 in
theorem fnDot_lifted (os : Os) (started : os.Started) (H : Type) (enc : TypeId × Value → H) (F : Stop.Interp) :
    ReturnsInHanded {} Tryz.checked os 3 .any ((OpenSpec.ofChange Rows.fnDotSpec).preRow enc Tryz.prog Tryz.f3 Rows.fnDotRow.domain false Rows.fnDotRow.laid) (((OpenSpec.ofChange Rows.fnDotSpec).at F).post enc Tryz.prog Tryz.f3 false true false false) := by
  refine returnsInHanded_of_row (C := Tryz.checked) (s := OpenSpec.ofChange Rows.fnDotSpec) VSown started (by kernel_rfl) Tryz.func3
    (witness_row_atRef (enc := enc) (C := Tryz.checked) false (laidWorld os) #[.slice none 0 0, .slice none 0 0] rfl (vars_ok os) (by kernel_rfl) (by kernel_rfl) (fnDot_reads os enc)) ?_
  intro W base args ds gs before hval hW _ _ _ hL _ _
  exact fnDot_contract H enc W base args ds gs before hval (T3.of_laid hL) hW
theorem fnDot_said : Rows.FnDotSaid :=
  OpenClaim.holds_of_cond 3 Tryz.f3 rfl rfl rfl rfl rfl rfl rfl ⟨rfl, rfl, rfl, rfl, rfl⟩ rfl rfl rfl rfl rfl (by kernel_rfl) Tryz.func3 (by kernel_rfl)
    (of_decide_eq_true (by kernel_rfl)) (by unfold Func.isWrapper; first | (rw [if_pos (by decide +kernel)]; kernel_rfl) | (rw [if_neg (by decide +kernel)]; exact ⟨rfl, rfl⟩))
    (fun os started H enc _ F => by rw [OpenClaim.pre_eq_preRow]; exact fnDot_lifted os started H enc F)
theorem fnDot_plain (f : FuncId) (fn : Func) (hf : Tryz.pinned.checked.prog.funcNamed "pub-tallysheet/laws.FnDot" = some f) (hfn : Tryz.pinned.checked.prog.funcs[f]? = some fn) :
    true = Tryz.pinned.checked.prog.looks [] ∧ ∀ (j : Nat) t, fn.params[j]? = some t → Tryz.pinned.checked.prog.wantsStandIn t = false := by
  obtain rfl : f = 3 := Option.some.inj (fnDot_f.symm.trans hf) |>.symm
  obtain rfl : fn = Tryz.f3 := (Option.some.inj (Tryz.func3.symm.trans hfn)).symm
  refine ⟨by kernel_rfl, fun j t ht => ?_⟩
  rw [Tryz.params3] at ht
  have hm := Array.mem_of_getElem? ht
  have h2 : Tryz.prog.wantsStandIn 22 = false := by kernel_rfl
  simp only [List.mem_toArray, List.mem_cons, List.not_mem_nil, or_false] at hm
  rcases hm with rfl | rfl
  · exact h2
  · exact h2
/-- The card of FnDot. -/
theorem fnDot_card : Rows.FnDotCardSaid :=
  Claim7.holds_tied_plain_at .later [] _ _ _ _ fnDot_said (fun _ h => by cases h) (by kernel_rfl) (fun _ h => by cases h) fnDot_row_tie rfl ⟨rfl, rfl⟩ (by kernel_rfl) rfl fnDot_plain (by kernel_rfl)
end Go.Proofs.YtlhonpmpchkkfaaGreatDoor
