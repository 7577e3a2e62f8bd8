/- FnIndex: for every input the law returns true; its row is the given one, tied. -/
import Derived.Test.YtpamlgdcnmcedaaGreatDoorCards
import Derived.Test.YtpamlgdcnmcedaaGreatDoorTie
import Derived.Test.YtpamlgdcnmcedaaGreatDoorXA
import Derived.Test.YtpamlgdcnmcedaaGreatDoorIR4
import Derived.Test.YtpamlgdcnmcedaaGreatDoorJl
import Derived.WalkKit
import Derived.ProofKit
import Derived.OpenShut
import Derived.Deep.DeepHandedRow
import Derived.Lib.LaidU8T
import Derived.PinnedBridge
import Derived.OpenVars
import Derived.SevenTiedAt
import Derived.Deep.DeepWitnessRowRef
import Derived.Test.YtpamlgdcnmcedaaGreatDoorIR2
import Derived.Test.YtpamlgdcnmcedaaGreatDoorIR3
set_option linter.unusedVariables false
set_option maxRecDepth 1000000
namespace Go.Proofs.YtpamlgdcnmcedaaGreatDoor
open Go Go.ChangeShapes Go.WideShapes Go.ChangeAt Go.RowKit
theorem own : ownKnob Tryz.prog.godebug = none := by kernel_rfl
theorem laidOut : laidOutB Tryz.prog = true := by kernel_rfl
theorem accept_eq : (Rows.laid_unicode_utf8_acceptRanges : DataW Unit) = Lib.acceptData := by kernel_rfl
/-- The two tables of utf8, off the listed variables. -/
theorem tabs_of_laid {W : World} (h : laidMet Tryz.prog Rows.fnIndexRow.laid W) : Lib.Utf8Tabs 0 1 W :=
  utf8Tabs_of_readsT (ρ := valid147_ren) (U8Types.of196 valid147) ⟨by kernel_rfl, by kernel_rfl, by kernel_rfl, by kernel_rfl, by kernel_rfl, by kernel_rfl, by kernel_rfl⟩
    (Pinned.utf8First_eq ▸ Lib.laidMet.reads h (by simp [Rows.fnIndexRow, Rows.laid_unicode_utf8_first])) (accept_eq ▸ Lib.laidMet.reads h (by simp [Rows.fnIndexRow]))
theorem contract (H : Type) (enc : TypeId × Value → H) (W : World) (base : Nat) (args : Array Value) (ds gs : List (DataW H)) (before : List MemPlace)
    (hval : ∀ (j : Nat) t v, Tryz.f6.params[j]? = some t → args[j]? = some v → Value.okWide Tryz.prog W .any base t v)
    (hW : DataW.Whole enc Tryz.prog Tryz.f6.params.toList Rows.fnIndexSpec.vars false W args.toList ds gs before)
    (hsz : (DataW.weightsEach Tryz.prog (Tryz.f6.params.toList ++ Rows.fnIndexSpec.plain.varTypes Tryz.prog) (ds ++ gs)).all (· ≤ reachBytes) = true)
    (hL : laidMet Tryz.prog Rows.fnIndexRow.laid W) :
    Calls Tryz.prog 6 args W fun e W' => ∃ v, e = .returned v ∧ Rows.fnIndexSpec.post enc Tryz.prog Tryz.f6 false true false false W args v W' := by
  have hW' := hW
  obtain ⟨p, q, hA0, hV, rfl, hfz, hnd⟩ := hW
  have hA : DataW.TrodAll enc Tryz.prog W 0 (fun _ => true) true Tryz.f6.params.toList args.toList ds p := hA0
  rw [Tryz.params6] at hA hval hsz
  obtain ⟨v0, vs0, d0, ds0, p0, q0, hargs, rfl, rfl, h0, r0⟩ := trodAll_cons hA
  obtain ⟨v1, vs1, d1, ds1, p1, q1, rfl, rfl, rfl, h1, r1⟩ := trodAll_cons r0
  obtain ⟨rfl, rfl, rfl⟩ := trodAll_nil r1
  obtain rfl : args = #[v0, v1] := by cases args; simp_all
  obtain ⟨rfl, rfl⟩ := trodVars_none hV
  have k0 := h0
  have lt0 : ∀ x ∈ p0, x.block < W.heap.size := by obtain ⟨m, hm⟩ := k0; exact DataW.trod_lt m _ _ _ hm
  have k1 := h1
  have lt1 : ∀ x ∈ p1, x.block < W.heap.size := by obtain ⟨m, hm⟩ := k1; exact DataW.trod_lt m _ _ _ hm
  have wt0 : ∀ n, n ∈ d0.weights Tryz.prog 26 → n ≤ reachBytes := fun n hn => by
    have := List.all_eq_true.1 hsz n (DataW.weights_mem_each (j := 0) (t := 26) (d := d0) rfl rfl n hn)
    simpa using this
  obtain ⟨x0, c0, rfl, hr0⟩ := argV (hval 0 26 v0 rfl rfl) h0 wt0
  have wt1 : ∀ n, n ∈ d1.weights Tryz.prog 26 → n ≤ reachBytes := fun n hn => by
    have := List.all_eq_true.1 hsz n (DataW.weights_mem_each (j := 1) (t := 26) (d := d1) rfl rfl n hn)
    simpa using this
  obtain ⟨x1, c1, rfl, hr1⟩ := argV (hval 1 26 v1 rfl rfl) h1 wt1
  clear hA0 hsz
  refine (index_law x0 x1 (fun _ => True) c0 c1 W hr0 hr1 (tabs_of_laid hL)).mono fun e W' ⟨he, bel⟩ => ?_
  subst he
  exact ⟨_, rfl, _, _, _, [], _, [], hW', trodAll_mk1 (shut_bool Tryz.underlying4 _), (trodAll_cons_mk (Below.trod laidOut (by kernel_rfl) (of_decide_eq_true (by kernel_rfl)) k0 bel lt0) (trodAll_cons_mk (Below.trod laidOut (by kernel_rfl) (of_decide_eq_true (by kernel_rfl)) k1 bel lt1) trodAll_mk0)), rfl, bel.frame _, fun h => by cases h⟩
theorem witness_row (os : Os) {H : Type} (enc : TypeId × Value → H) :
    (OpenSpec.ofChange Rows.fnIndexSpec).preRow enc Tryz.prog Tryz.f6 Rows.fnIndexRow.domain false Rows.fnIndexRow.laid (laidMem os #[zeroV, zeroV]) #[zeroV, zeroV] := by
  have hw : (DataW.whole enc Tryz.prog (laidMem os #[zeroV, zeroV]) Tryz.f6.params.toList Rows.fnIndexSpec.vars false #[zeroV, zeroV].toList 8).map (fun x => (x.1, x.2.1)) =
      some ([.agg [.lit (.int .i64 0), .lit (.int .i64 0), .lit (.string []), .nil, .nil, .nil], .agg [.lit (.int .i64 0), .lit (.int .i64 0), .lit (.string []), .nil, .nil, .nil]], []) := by kernel_rfl
  obtain ⟨⟨x1, x2, x3⟩, hx, hx1⟩ := Option.map_eq_some_iff.1 hw
  simp only [Prod.mk.injEq] at hx1
  obtain ⟨rfl, rfl⟩ := hx1
  exact OpenSpec.preRow_of_cond 8 hx (by kernel_rfl) (fun k hk => by cases hk) (by kernel_rfl) (laid_met os _)
theorem lifted (os : Os) (started : os.Started) (H : Type) (enc : TypeId × Value → H) (F : Stop.Interp) :
    ReturnsInHanded {} Tryz.checked os 6 .any ((OpenSpec.ofChange Rows.fnIndexSpec).preRow enc Tryz.prog Tryz.f6 Rows.fnIndexRow.domain false Rows.fnIndexRow.laid) (((OpenSpec.ofChange Rows.fnIndexSpec).at F).post enc Tryz.prog Tryz.f6 false true false false) := by
  refine returnsInHanded_of_row (C := Tryz.checked) (s := OpenSpec.ofChange Rows.fnIndexSpec) own started noInit6 Tryz.func6
    (witness_row_atRef (enc := enc) (C := Tryz.checked) false (laidWorld os) #[zeroV, zeroV] rfl (wit_vars os) (wit_rest os) (wit_ok os) (witness_row os enc)) ?_
  intro W base args ds gs before hval hW _ _ hsz hL _ _
  exact contract H enc W base args ds gs before hval hW hsz hL
theorem said : Rows.FnIndexSaid :=
  OpenClaim.holds_of_cond 6 Tryz.f6 rfl rfl rfl rfl rfl rfl rfl ⟨rfl, rfl, rfl, rfl, rfl⟩ rfl rfl rfl rfl rfl fnIndex_named Tryz.func6 fnIndex_closed fnIndex_inst fnIndex_wrap
    (fun os started H enc _ F => by rw [OpenClaim.pre_eq_preRow]; exact lifted os started H enc F)
theorem plainCard (f : FuncId) (fn : Func) (hf : Tryz.pinned.checked.prog.funcNamed Rows.fnIndexRow.func = some f) (hfn : Tryz.pinned.checked.prog.funcs[f]? = some fn) :
    true = Tryz.pinned.checked.prog.looks [] ∧ ∀ (j : Nat) t, fn.params[j]? = some t → Tryz.pinned.checked.prog.wantsStandIn t = false := by
  obtain rfl : f = 6 := Option.some.inj (fnIndex_named.symm.trans hf) |>.symm
  obtain rfl : fn = Tryz.f6 := (Option.some.inj (Tryz.func6.symm.trans hfn)).symm
  refine ⟨looks_on, fun j t ht => ?_⟩
  rw [Tryz.params6] at ht
  have hm : t ∈ [26, 26] := by simpa using Array.mem_of_getElem? ht
  exact (show Tryz.prog.wantsStandIn t = false by simpa using List.all_eq_true.1 fnIndex_stand t hm)
/-- The card. -/
theorem index_card : Rows.FnIndexCardSaid :=
  Claim7.holds_tied_plain_at .later [] _ _ _ _ said (fun _ h => by cases h) fnIndex_wf (fun _ h => by cases h) fnIndex_row_tie rfl ⟨rfl, rfl⟩ main_is rfl plainCard fnIndex_goes
#print axioms index_card
end Go.Proofs.YtpamlgdcnmcedaaGreatDoor
