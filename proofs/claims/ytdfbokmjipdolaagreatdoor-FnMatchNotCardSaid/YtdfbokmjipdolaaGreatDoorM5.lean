/- PROVED HERE: for every string and every filter, of whatever bytes and integers, the law FnMatchNot returns true and its arguments read as they did. Conditions: none beyond the row's own (the listed package variables hold what the program's text lays there, which the card ties). -/
import Derived.Test.YtdfbokmjipdolaaGreatDoorCards
import Derived.Test.YtdfbokmjipdolaaGreatDoorTie
import Derived.Test.YtdfbokmjipdolaaGreatDoorM4S
import Derived.Test.YtdfbokmjipdolaaGreatDoorQ20
import Derived.Test.YtdfbokmjipdolaaGreatDoorL1
import Derived.WalkKit
import Derived.ProofKit
import Derived.OpenShut
import Derived.Deep.DeepHandedRow
import Derived.Deep.DeepWitnessRowRef
import Derived.Deep.Strs
import Derived.Lib.LaidTab
import Derived.Lib.SmallJoins
set_option linter.unusedVariables false
set_option linter.unusedSimpArgs false
namespace Go.Proofs.YtdfbokmjipdolaaGreatDoor
open Go.ChangeShapes Go.WideShapes Go.ChangeAt Go.RowKit Go.Deep Go.Lib Go.ChangeMaps Go.Joins

theorem own : ownKnob Tryz.prog.godebug = none := by kernel_rfl
theorem laidOut : laidOutB Tryz.prog = true := by kernel_rfl
theorem size3 : Tryz.prog.cellsOf 3 = 1 := by kernel_rfl
theorem size4 : Tryz.prog.cellsOf 4 = 1 := by kernel_rfl
theorem size9 : Tryz.prog.cellsOf 9 = 1 := by kernel_rfl
theorem size23 : Tryz.prog.cellsOf 23 = 3 := by kernel_rfl
theorem size25 : Tryz.prog.cellsOf 25 = 6 := by kernel_rfl

theorem array6 {α : Type} {cs : Array α} (h : cs.size = 6) : ∃ c0 c1 c2 c3 c4 c5, cs = #[c0, c1, c2, c3, c4, c5] := by
  obtain ⟨l⟩ := cs
  match l, h with
  | [c0, c1, c2, c3, c4, c5], _ => exact ⟨c0, c1, c2, c3, c4, c5, rfl⟩

set_option maxRecDepth 100000 in
/-- THE CONDITION, OPENED: what came in is a value of the walk's own form, its N an int64. -/
theorem open_filter {H : Type} {enc : TypeId × Value → H} {W : World} {r : Reach} {b0 : Nat} {v : Value} {d : DataW H} {p : List MemPlace}
    (hv : Value.okWide Tryz.prog W r b0 25 v) (h : DataW.Trod enc Tryz.prog W 0 (fun _ => true) true 25 v d p) :
    ∃ (m k K N : Int) (t : ByteArray) (c : Bool), v = filtV m k K N t c ∧ -9223372036854775808 ≤ N ∧ N ≤ 9223372036854775807 := by
  obtain ⟨cs, rfl, hsz⟩ := okWide_struct Tryz.underlying25 hv
  rw [size25] at hsz
  obtain ⟨c0, c1, c2, c3, c4, c5, rfl⟩ := array6 hsz
  obtain ⟨fuel, hf⟩ := h
  obtain ⟨y0, y1, y2, y3, n, _, _, t0, t1, t2, t3⟩ := trod_struct4 Tryz.underlying25 hf
  simp only [Value.cells, size3, size4, size23, List.drop_zero, List.drop_succ_cons, List.take_succ_cons, List.take_zero] at t0 t1 t2 t3
  obtain ⟨z0, z1, z2, n', _, _, u0, u1, u2⟩ := trod_struct3 Tryz.underlying23 t2
  simp only [size3, size9, List.drop_zero, List.drop_succ_cons, List.take_succ_cons, List.take_zero] at u0 u1 u2
  obtain ⟨m, e0, _, _⟩ := DataW.trod_int Tryz.underlying3 t0
  obtain ⟨k, e1, _, _⟩ := DataW.trod_int Tryz.underlying3 t1
  obtain ⟨K, e2, _, _⟩ := DataW.trod_int Tryz.underlying3 u0
  obtain ⟨t, e3, _, _⟩ := DataW.trod_string Tryz.underlying9 u1
  obtain ⟨N, e4, _, hN⟩ := DataW.trod_int Tryz.underlying3 u2
  obtain ⟨c, e5, _⟩ := DataW.trod_bool Tryz.underlying4 t3
  simp only [List.cons.injEq, and_true] at e0 e1 e2 e3 e4 e5
  subst e0 e1 e2 e3 e4 e5
  have hb := bounds_i64 hN
  exact ⟨m, k, K, N, t, c, rfl, hb.1, hb.2⟩

set_option maxRecDepth 100000 in
/-- WHAT THE WALK GIVES, FOR EVERY ARGUMENT AND EVERY WORLD THAT HOLDS THE TABLES. -/
theorem contract (H : Type) (enc : TypeId × Value → H) (F : Stop.Interp) (W : World) (base : Nat) (args : Array Value) (ds gs : List (DataW H)) (before : List MemPlace)
    (hval0 : ∀ (j : Nat) t v, Tryz.f3.params[j]? = some t → args[j]? = some v → Value.okWide Tryz.prog W .any base t v)
    (hW : DataW.Whole enc Tryz.prog Tryz.f3.params.toList Rows.fnMatchNotSpec.vars false W args.toList ds gs before) (hL : laidMet Tryz.prog Rows.fnMatchNotRow.laid W) :
    Calls Tryz.prog 3 args W fun e W' => ∃ v, e = .returned v ∧ ((OpenSpec.ofChange Rows.fnMatchNotSpec).at F).post enc Tryz.prog Tryz.f3 false true false false W args v W' := by
  have hval : ∀ (j : Nat) t v, Tryz.f3.params[j]? = some t → args[j]? = some v → Value.okWide Tryz.prog W .any base t v := hval0
  have hW' := hW
  obtain ⟨p, q, hA0, hV0, rfl, _, _⟩ := hW
  have hA : DataW.TrodAll enc Tryz.prog W 0 (fun _ => true) true Tryz.f3.params.toList args.toList ds p := hA0
  rw [Tryz.params3] at hA hval
  obtain ⟨v0, v1, d0, d1, p0, p1, rfl, rfl, rfl, h0, h1⟩ := trodAll_two hA
  obtain ⟨rfl, rfl⟩ := trodVars_none hV0
  have h0k := h0
  have h1k := h1
  obtain ⟨s, rfl, _, _, _⟩ := open_string Tryz.underlying9 (hval 0 9 v0 rfl rfl) h0
  obtain ⟨m, k, K, N, t, c, rfl, hN0, hN1⟩ := open_filter (hval 1 25 v1 rfl rfl) h1
  clear hA0 hV0 hval0
  simp only [List.append_nil] at hW'
  have hlt : ∀ x ∈ p0 ++ p1, x.block < W.heap.size := fun x hx => by simpa using hW'.lt x hx
  obtain ⟨hg, sg⟩ := tables hL
  refine (law_any s t m k K N c W hg sg hN0 hN1).mono ?_
  rintro e W' ⟨rfl, bel⟩
  have e1 : ((OpenSpec.ofChange Rows.fnMatchNotSpec).at F).fn H ([d0, d1] ++ []) = { results := [.lit (.bool true)], args := [d0, d1] } := rfl
  refine ⟨_, rfl, _, _, _, [], p0 ++ p1, [], hW', ?_, ?_, ?_, bel.frame _, fun h => by cases h⟩
  · rw [e1]; exact trodAll_mk1 (shut_bool Tryz.underlying4 true)
  · rw [e1]; exact trodAll_mk2 (Below.trod laidOut (by kernel_rfl) (of_decide_eq_true (by kernel_rfl)) h0k bel (fun x hx => hlt x (by simp [hx]))) (Below.trod laidOut (by kernel_rfl) (of_decide_eq_true (by kernel_rfl)) h1k bel (fun x hx => hlt x (by simp [hx])))
  · rw [e1]; rfl

/-- THE WITNESS's ARGUMENTS. -/
def wit : Array Value := #[.string ByteArray.empty, .agg #[.int .i64 0, .int .i64 0, .int .i64 0, .string ByteArray.empty, .int .i64 0, .bool false]]
theorem reads (os : Os) {H : Type} (enc : TypeId × Value → H) : ∃ places, DataW.whole enc Tryz.prog (ww os wit).memory Tryz.f3.params.toList Rows.fnMatchNotSpec.vars false wit.toList 8 =
    some ([.lit (.string []), .agg [.lit (.int .i64 0), .lit (.int .i64 0), .agg [.lit (.int .i64 0), .lit (.string []), .lit (.int .i64 0)], .lit (.bool false)]], [], places) :=
  ⟨[], by kernel_rfl⟩
theorem witOk (os : Os) : Input.okWideB Tryz.prog (ww os wit) 3 ⟨#[], wit, []⟩ = true := by kernel_rfl
theorem witness_row (os : Os) {H : Type} (enc : TypeId × Value → H) :
    (OpenSpec.ofChange Rows.fnMatchNotSpec).preRow enc Tryz.prog Tryz.f3 Rows.fnMatchNotRow.domain false Rows.fnMatchNotRow.laid ((laidWorld os).forCall (fun _ _ => 0) ⟨#[], wit, []⟩).memory wit := by
  obtain ⟨places, hx⟩ := reads os enc
  exact OpenSpec.preRow_of_cond 8 hx (by kernel_rfl) (fun k hk => by cases hk) (by kernel_rfl) (laid_met os wit)

set_option maxRecDepth 100000 in
theorem lifted (os : Os) (started : os.Started) (H : Type) (enc : TypeId × Value → H) (F : Stop.Interp) :
    ReturnsInHanded {} Tryz.checked os 3 .any ((OpenSpec.ofChange Rows.fnMatchNotSpec).preRow enc Tryz.prog Tryz.f3 Rows.fnMatchNotRow.domain false Rows.fnMatchNotRow.laid) (((OpenSpec.ofChange Rows.fnMatchNotSpec).at F).post enc Tryz.prog Tryz.f3 false true false false) := by
  refine returnsInHanded_of_row (C := Tryz.checked) (s := OpenSpec.ofChange Rows.fnMatchNotSpec) own started (by kernel_rfl) Tryz.func3
    (witness_row_atRef (enc := enc) (C := Tryz.checked) false (laidWorld os) wit rfl (vref os wit) (rest os wit) (witOk os) (witness_row os enc)) ?_
  intro W base args ds gs before hval hW _ _ _ hL _ _
  exact contract H enc F W base args ds gs before hval hW hL

theorem said : Rows.FnMatchNotSaid :=
  OpenClaim.holds_of_cond 3 Tryz.f3 rfl rfl rfl rfl rfl rfl rfl ⟨rfl, rfl, rfl, rfl, rfl⟩ rfl rfl rfl rfl rfl (by kernel_rfl) Tryz.func3 (by kernel_rfl)
    (of_decide_eq_true (by kernel_rfl)) (by unfold Func.isWrapper; first | (rw [if_pos (by decide +kernel)]; kernel_rfl) | (rw [if_neg (by decide +kernel)]; exact ⟨rfl, rfl⟩))
    (fun os started H enc _ F => by rw [OpenClaim.pre_eq_preRow]; exact lifted os started H enc F)

/-- No parameter wants a stand-in; the program's own looks are off. -/
theorem plain (f : FuncId) (fn : Func) (hf : Tryz.pinned.checked.prog.funcNamed "pub-pinstripe/laws.FnMatchNot" = some f) (hfn : Tryz.pinned.checked.prog.funcs[f]? = some fn) :
    true = Tryz.pinned.checked.prog.looks [] ∧ ∀ (j : Nat) t, fn.params[j]? = some t → Tryz.pinned.checked.prog.wantsStandIn t = false := by
  obtain rfl : f = 3 := Option.some.inj ((show Tryz.prog.funcNamed "pub-pinstripe/laws.FnMatchNot" = some 3 by kernel_rfl).symm.trans hf) |>.symm
  obtain rfl : fn = Tryz.f3 := (Option.some.inj (Tryz.func3.symm.trans hfn)).symm
  refine ⟨by kernel_rfl, fun j t ht => ?_⟩
  rw [Tryz.params3] at ht
  obtain rfl | rfl : t = 9 ∨ t = 25 := by simpa using Array.mem_of_getElem? ht
  · exact (show Tryz.prog.wantsStandIn 9 = false by kernel_rfl)
  · exact (show Tryz.prog.wantsStandIn 25 = false by kernel_rfl)

theorem card : Rows.FnMatchNotCardSaid :=
  Claim7.holds_tied_plain_at .later [] _ _ _ _ said (fun _ h => by cases h) (by kernel_rfl) (fun _ h => by cases h) fnMatchNot_row_tie rfl ⟨rfl, rfl⟩ (by kernel_rfl) rfl plain (by kernel_rfl)
end Go.Proofs.YtdfbokmjipdolaaGreatDoor
