/- The card of the law FnRegex: for whatever arguments the law returns true, and its arguments read as they did. No condition beyond the row's own. -/
import Derived.Test.YtjeklnbfpehbeaaDoorM24
import Derived.Test.YtjeklnbfpehbeaaDoorM25
import Derived.Test.YtjeklnbfpehbeaaDoorCards
import Derived.Test.YtjeklnbfpehbeaaDoorTie
import Derived.WalkKit
import Derived.ProofKit
import Derived.OpenShut
import Derived.Carry
import Derived.Lay
import Derived.Deep.DeepHandedRow
import Derived.Deep.DeepWitnessRowRef
import Derived.ChangeMaps5
set_option linter.unusedVariables false
/- The card of the law FnRegex: for whatever arguments the law returns true, and its arguments read as they did. No condition beyond the row's own. -/
namespace Go.Proofs.YtjeklnbfpehbeaaDoor.fnRegex
open Go.ChangeShapes Go.WideShapes Go.ChangeAt Go.ChangeMaps Go.RowKit Go.Proofs.YtjeklnbfpehbeaaDoor

theorem own : ownKnob Tryd.prog.godebug = none := by kernel_rfl
theorem laidOut : laidOutB Tryd.prog = true := by kernel_rfl
theorem read25 : Tryd.prog.readableRec 25 = true := by kernel_rfl
theorem read9 : Tryd.prog.readableRec 9 = true := by kernel_rfl
theorem size25 : 25 < Tryd.prog.types.size := of_decide_eq_true (by kernel_rfl)
theorem size9 : 9 < Tryd.prog.types.size := of_decide_eq_true (by kernel_rfl)

set_option maxRecDepth 100000 in
/-- What the walk gives, for every argument and every world that holds what the row lists. -/
theorem contract (H : Type) (enc : TypeId × Value → H) (W : World) (base : Nat) (args : Array Value) (ds gs : List (DataW H)) (before : List MemPlace)
    (hval : ∀ (j : Nat) t v, Tryd.f3.params[j]? = some t → args[j]? = some v → Value.okWide Tryd.prog W .any base t v)
    (hW : DataW.Whole enc Tryd.prog Tryd.f3.params.toList Rows.fnRegexSpec.vars false W args.toList ds gs before) (hL : laidMetH Tryd.prog Rows.fnRegexRow.laid W) :
    Calls Tryd.prog 3 args W fun e W' => ∃ v, e = .returned v ∧ Rows.fnRegexSpec.post enc Tryd.prog Tryd.f3 false true false false W args v W' := by
  have hlt := DataW.Whole.lt hW
  have hW' := hW
  obtain ⟨p, q, hA0, hV, rfl, hfz, hnd⟩ := hW
  have hA : DataW.TrodAll enc Tryd.prog W 0 (fun _ => true) true Tryd.f3.params.toList args.toList ds p := hA0
  rw [Tryd.params3] at hA hval
  obtain ⟨v0, vs0, d0, ds0, p0, q0, hargs, rfl, rfl, h0, r0⟩ := trodAll_cons hA
  obtain ⟨v1, vs1, d1, ds1, p1, q1, rfl, rfl, rfl, h1, r1⟩ := trodAll_cons r0
  obtain ⟨rfl, rfl, rfl⟩ := trodAll_nil r1
  obtain rfl : args = #[v0, v1] := by cases args; simp_all
  obtain ⟨rfl, rfl⟩ := trodVars_none hV
  obtain ⟨text, rfl, rfl, rfl, -⟩ := open_string Tryd.underlying9 (hval 1 9 v1 rfl rfl) h1
  clear hA0
  simp only [List.append_nil] at hW' hlt
  obtain ⟨cs, rfl, hcs⟩ := okWide_struct Tryd.underlying25 (hval 0 25 v0 rfl rfl)
  have hraw : RawE W 4 (.agg cs) := by
    obtain ⟨fuel, hf⟩ := id h0
    have := rawE_of 4 fuel _ _ (by simpa [Value.cells] using hf)
    simpa using this
  obtain ⟨a, hS, hN⟩ := sent_of hL
  have h9 : 9 < W.heap.size := World.block_lt_of_cell? W _ hN.r0
  refine (law_calls text hraw hS hN h9).mono ?_
  rintro e W' ⟨rfl, hF⟩
  have hb := hF.below
  refine ⟨_, rfl, _, _, _, [], p0, [], hW', trodAll_cons_mk (shut_bool Tryd.underlying4 _) trodAll_mk0, ?_, rfl, Below.frame hb _, fun h => by cases h⟩
  rw [Tryd.params3]
  have hargs := trodAll_mk2 (Below.trod laidOut read25 size25 h0 hb (fun x hx => hlt x (by simp [hx]))) (Below.trod laidOut read9 size9 h1 hb (fun x hx => by cases hx))
  rw [List.append_nil] at hargs
  exact hargs

noncomputable def argsW : Array Value := #[.agg #[.int .i64 0, .slice none 0 0, .int .i64 0, .int .i64 0, .bool false, .bool false, .slice none 0 0], .string ⟨#[]⟩]
theorem laid_met (os : Os) : laidMetH Tryd.prog Rows.fnRegexRow.laid ((World.laidAll Tryd.prog os Rows.fnRegexRow.laid).forCall (fun _ _ => 0) ⟨#[], argsW, []⟩).memory := by
  rw [MakeChecks.laidMetH_plain _ _ _ (by kernel_rfl)]
  exact laidMet_laidAll argsW (by kernel_rfl) (by kernel_rfl)
theorem reads (os : Os) {H : Type} (enc : TypeId × Value → H) : ∃ places, DataW.whole enc Tryd.prog ((World.laidAll Tryd.prog os Rows.fnRegexRow.laid).forCall (fun _ _ => 0) ⟨#[], argsW, []⟩).memory Tryd.f3.params.toList Rows.fnRegexSpec.vars false argsW.toList 8 = some ([.agg [.lit (.int .i64 0), .nil, .lit (.int .i64 0), .lit (.int .i64 0), .lit (.bool false), .lit (.bool false), .nil], .lit (.string [])], [], places) :=
  ⟨[], by kernel_rfl⟩

set_option maxRecDepth 100000 in
theorem lifted (os : Os) (started : os.Started) (H : Type) (enc : TypeId × Value → H) (F : Stop.Interp) :
    ReturnsInHanded {} Tryd.checked os 3 .any ((OpenSpec.ofChange Rows.fnRegexSpec).preRow enc Tryd.prog Tryd.f3 Rows.fnRegexRow.domain false Rows.fnRegexRow.laid) (((OpenSpec.ofChange Rows.fnRegexSpec).at F).post enc Tryd.prog Tryd.f3 false true false false) := by
  obtain ⟨places, hx⟩ := reads os enc
  refine returnsInHanded_of_row (C := Tryd.checked) (s := OpenSpec.ofChange Rows.fnRegexSpec) own started (by kernel_rfl) Tryd.func3
    (witness_row_atRef (enc := enc) (C := Tryd.checked) false (World.laidAll Tryd.prog os Rows.fnRegexRow.laid) argsW (World.laidAll_os _ _ _) (by kernel_rfl) (by kernel_rfl) (by kernel_rfl)
      (OpenSpec.preRow_of_cond 8 hx (by kernel_rfl) (fun k hk => by cases hk) (by kernel_rfl) (laid_met os))) ?_
  intro W base args ds gs before hval hW _ _ _ hL _ _
  exact contract H enc W base args ds gs before hval hW hL

theorem said : Rows.FnRegexSaid :=
  OpenClaim.holds_of_cond 3 Tryd.f3 rfl rfl rfl rfl rfl rfl rfl ⟨rfl, rfl, rfl, rfl, rfl⟩ rfl rfl rfl rfl rfl (by kernel_rfl) Tryd.func3 (by kernel_rfl)
    (of_decide_eq_true (by kernel_rfl)) (by unfold Func.isWrapper; first | (rw [if_pos (by decide +kernel)]; kernel_rfl) | (rw [if_neg (by decide +kernel)]; exact ⟨rfl, rfl⟩))
    (fun os started H enc _ F => by rw [OpenClaim.pre_eq_preRow]; exact lifted os started H enc F)

theorem plain (f : FuncId) (fn : Func) (hf : Tryd.pinned.checked.prog.funcNamed "pub-traverser/laws.FnRegex" = some f) (hfn : Tryd.pinned.checked.prog.funcs[f]? = some fn) :
    true = Tryd.pinned.checked.prog.looks [] ∧ ∀ (j : Nat) t, fn.params[j]? = some t → Tryd.pinned.checked.prog.wantsStandIn t = false := by
  obtain rfl : f = 3 := Option.some.inj ((show Tryd.prog.funcNamed "pub-traverser/laws.FnRegex" = some 3 by kernel_rfl).symm.trans hf) |>.symm
  obtain rfl : fn = Tryd.f3 := (Option.some.inj (Tryd.func3.symm.trans hfn)).symm
  refine ⟨by kernel_rfl, fun j t ht => ?_⟩
  rw [Tryd.params3] at ht
  have h2 : t = 25 ∨ t = 9 := by simpa using Array.mem_of_getElem? ht
  rcases h2 with rfl | rfl
  · exact (show Tryd.prog.wantsStandIn 25 = false by kernel_rfl)
  · exact (show Tryd.prog.wantsStandIn 9 = false by kernel_rfl)

/-- The card. -/
theorem card : Rows.FnRegexCardSaid :=
  Claim7.holds_tied_plain_at .later [] _ _ _ _ said (fun _ h => by cases h) (by kernel_rfl) (fun _ h => by cases h) fnRegex_row_tie rfl ⟨rfl, rfl⟩ (by kernel_rfl) rfl plain (by kernel_rfl)
end Go.Proofs.YtjeklnbfpehbeaaDoor.fnRegex
