/- The card of the law FnMergeFormat: for whatever arguments the law returns true, and its arguments read as they did. No condition beyond the row's own. -/
import Derived.Test.YtmhlnijpimjjaaaGreatDoorM40
import Derived.Test.YtmhlnijpimjjaaaGreatDoorM41
import Derived.Test.YtmhlnijpimjjaaaGreatDoorM42
import Derived.Test.YtmhlnijpimjjaaaGreatDoorCards
import Derived.Test.YtmhlnijpimjjaaaGreatDoorM07
import Derived.WalkKit
import Derived.ProofKit
import Derived.OpenShut
import Derived.Carry
import Derived.Lay
import Derived.Deep.DeepHandedRow
import Derived.Deep.DeepWitnessRowRef
import Derived.ChangeMaps5
set_option linter.unusedSimpArgs false
set_option linter.unusedVariables false
namespace Go.Proofs.YtmhlnijpimjjaaaGreatDoor.fnMergeFormat
open Go.ChangeShapes Go.WideShapes Go.ChangeAt Go.ChangeMaps Go.RowKit Go.Proofs.YtmhlnijpimjjaaaGreatDoor

theorem own : ownKnob Tryz.prog.godebug = none := by kernel_rfl
theorem laidOut : laidOutB Tryz.prog = true := by kernel_rfl
theorem read22 : Tryz.prog.readableRec 22 = true := by kernel_rfl
theorem read3 : Tryz.prog.readableRec 3 = true := by kernel_rfl
theorem size22 : 22 < Tryz.prog.types.size := of_decide_eq_true (by kernel_rfl)
theorem size3 : 3 < Tryz.prog.types.size := of_decide_eq_true (by kernel_rfl)

set_option maxRecDepth 100000 in
/-- What the walk gives, for every argument and every world that holds what the row lists. -/
theorem contract (H : Type) (enc : TypeId × Value → H) (W : World) (base : Nat) (args : Array Value) (ds gs : List (DataW H)) (before : List MemPlace)
  (hval : ∀ (j : Nat) t v, Tryz.f3.params[j]? = some t → args[j]? = some v → Value.okWide Tryz.prog W .any base t v)
  (hW : DataW.Whole enc Tryz.prog Tryz.f3.params.toList Rows.fnMergeFormatSpec.vars false W args.toList ds gs before) (hL : laidMetH Tryz.prog Rows.fnMergeFormatRow.laid W) :
  Calls Tryz.prog 3 args W fun e W' => ∃ v, e = .returned v ∧ Rows.fnMergeFormatSpec.post enc Tryz.prog Tryz.f3 false true false false W args v W' := by
 have hlt := DataW.Whole.lt hW
 have hW' := hW
 obtain ⟨p, q, hA0, hV, rfl, hfz, hnd⟩ := hW
 have hA : DataW.TrodAll enc Tryz.prog W 0 (fun _ => true) true Tryz.f3.params.toList args.toList ds p := hA0
 rw [Tryz.params3] at hA hval
 obtain ⟨v0, vs0, d0, ds0, p0, q0, hargs, rfl, rfl, h0, r0⟩ := trodAll_cons hA
 obtain ⟨v1, vs1, d1, ds1, p1, q1, rfl, rfl, rfl, h1, r1⟩ := trodAll_cons r0
 obtain ⟨rfl, rfl, rfl⟩ := trodAll_nil r1
 obtain rfl : args = #[v0, v1] := by cases args; simp_all
 obtain ⟨rfl, rfl⟩ := trodVars_none hV
 obtain ⟨z, rfl, rfl, rfl, -⟩ := open_int Tryz.underlying3 (hval 1 3 v1 rfl rfl) h1
 clear hA0
 simp only [List.append_nil] at hW' hlt
 obtain ⟨a, len, cap, rfl⟩ := okWide_slice Tryz.underlying22 (hval 0 22 v0 rfl rfl)
 obtain ⟨u, S, hu, hS, hbv⟩ : ∃ u S, [Value.slice a len cap] = [u] ∧ SetsV W u S ∧ ∀ L, L ∈ S → ∀ p, p ∈ L → (∀ y, y ∈ p.1 → y < 256) ∧ p.2 < 18446744073709551616 := by
  obtain ⟨fuel, hf⟩ := id h0
  exact sets_of (by simpa [Value.cells] using hf)
 obtain rfl : Value.slice a len cap = u := by simpa using hu
 rw [MakeChecks.laidMetH_plain _ _ _ (by kernel_rfl)] at hL
 obtain ⟨ea, hD⟩ := done_of_laid hL
 refine (law_calls hS hbv (tabs_of_laid hL) hD).mono ?_
 rintro e W' ⟨rfl, hF⟩
 have hb := hF.below
 refine ⟨_, rfl, _, _, _, [], p0, [], hW', trodAll_cons_mk (shut_bool Tryz.underlying4 _) trodAll_mk0, ?_, rfl, Below.frame hb _, fun h => by cases h⟩
 rw [Tryz.params3]
 have hargs := trodAll_mk2 (Below.trod laidOut read22 size22 h0 hb (fun x hx => hlt x (by simp [hx]))) (Below.trod laidOut read3 size3 h1 hb (fun x hx => by cases hx))
 rw [List.append_nil] at hargs
 exact hargs

noncomputable def argsW : Array Value := #[.slice none 0 0, .int .i64 0]
theorem laid_met (os : Os) : laidMetH Tryz.prog Rows.fnMergeFormatRow.laid ((World.laidAll Tryz.prog os Rows.fnMergeFormatRow.laid).forCall (fun _ _ => 0) ⟨#[], argsW, []⟩).memory := by
 rw [MakeChecks.laidMetH_plain _ _ _ (by kernel_rfl)]
 exact laidMet_laidAll argsW (by kernel_rfl) (by kernel_rfl)
theorem reads (os : Os) {H : Type} (enc : TypeId × Value → H) : ∃ places, DataW.whole enc Tryz.prog ((World.laidAll Tryz.prog os Rows.fnMergeFormatRow.laid).forCall (fun _ _ => 0) ⟨#[], argsW, []⟩).memory Tryz.f3.params.toList Rows.fnMergeFormatSpec.vars false argsW.toList 8 = some ([.nil, .lit (.int .i64 0)], [], places) :=
 ⟨[], by kernel_rfl⟩

set_option maxRecDepth 100000 in
theorem lifted (os : Os) (started : os.Started) (H : Type) (enc : TypeId × Value → H) (F : Stop.Interp) :
  ReturnsInHanded {} Tryz.checked os 3 .any ((OpenSpec.ofChange Rows.fnMergeFormatSpec).preRow enc Tryz.prog Tryz.f3 Rows.fnMergeFormatRow.domain false Rows.fnMergeFormatRow.laid) (((OpenSpec.ofChange Rows.fnMergeFormatSpec).at F).post enc Tryz.prog Tryz.f3 false true false false) := by
 obtain ⟨places, hx⟩ := reads os enc
 refine returnsInHanded_of_row (C := Tryz.checked) (s := OpenSpec.ofChange Rows.fnMergeFormatSpec) own started (by kernel_rfl) Tryz.func3
  (witness_row_atRef (enc := enc) (C := Tryz.checked) false (World.laidAll Tryz.prog os Rows.fnMergeFormatRow.laid) argsW (World.laidAll_os _ _ _) (by kernel_rfl) (by kernel_rfl) (by kernel_rfl)
   (OpenSpec.preRow_of_cond 8 hx (by kernel_rfl) (fun k hk => by cases hk) (by kernel_rfl) (laid_met os))) ?_
 intro W base args ds gs before hval hW _ _ _ hL _ _
 exact contract H enc W base args ds gs before hval hW hL

theorem said : Rows.FnMergeFormatSaid :=
 OpenClaim.holds_of_cond 3 Tryz.f3 rfl rfl rfl rfl rfl rfl rfl ⟨rfl, rfl, rfl, rfl, rfl⟩ rfl rfl rfl rfl rfl (by kernel_rfl) Tryz.func3 (by kernel_rfl)
  (of_decide_eq_true (by kernel_rfl)) (by unfold Func.isWrapper; first | (rw [if_pos (by decide +kernel)]; kernel_rfl) | (rw [if_neg (by decide +kernel)]; exact ⟨rfl, rfl⟩))
  (fun os started H enc _ F => by rw [OpenClaim.pre_eq_preRow]; exact lifted os started H enc F)

theorem plain (f : FuncId) (fn : Func) (hf : Tryz.pinned.checked.prog.funcNamed "pub-traverser/laws.FnMergeFormat" = some f) (hfn : Tryz.pinned.checked.prog.funcs[f]? = some fn) :
  true = Tryz.pinned.checked.prog.looks [] ∧ ∀ (j : Nat) t, fn.params[j]? = some t → Tryz.pinned.checked.prog.wantsStandIn t = false := by
 obtain rfl : f = 3 := Option.some.inj ((show Tryz.prog.funcNamed "pub-traverser/laws.FnMergeFormat" = some 3 by kernel_rfl).symm.trans hf) |>.symm
 obtain rfl : fn = Tryz.f3 := (Option.some.inj (Tryz.func3.symm.trans hfn)).symm
 refine ⟨by kernel_rfl, fun j t ht => ?_⟩
 rw [Tryz.params3] at ht
 have h2 : t = 22 ∨ t = 3 := by simpa using Array.mem_of_getElem? ht
 rcases h2 with rfl | rfl
 ·exact (show Tryz.prog.wantsStandIn 22 = false by kernel_rfl)
 ·exact (show Tryz.prog.wantsStandIn 3 = false by kernel_rfl)

/-- The card. -/
theorem card : Rows.FnMergeFormatCardSaid :=
 Claim7.holds_tied_plain_at .later [] _ _ _ _ said (fun _ h => by cases h) (by kernel_rfl) (fun _ h => by cases h) own_row_tie rfl ⟨rfl, rfl⟩ (by kernel_rfl) rfl plain (by kernel_rfl)
end Go.Proofs.YtmhlnijpimjjaaaGreatDoor.fnMergeFormat
