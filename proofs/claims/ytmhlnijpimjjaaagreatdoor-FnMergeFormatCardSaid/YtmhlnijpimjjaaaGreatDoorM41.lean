/- What the row's list of package-level variables gives the walks: ErrIteratorDone is laid, and the two tables of short codes. Condition: the list is met. What the row's list of package-level variables gives the walks: the two tables of short codes. Condition: the list is met. -/
import Derived.Test.YtmhlnijpimjjaaaGreatDoorRows
import Derived.Test.YtmhlnijpimjjaaaGreatDoorM24
import Derived.Stop.LaidTwo
import Derived.LaidSub
import Derived.ChangeSlices
import Derived.WalkKit
set_option linter.unusedSimpArgs false
set_option linter.unusedVariables false
namespace Go.Proofs.YtmhlnijpimjjaaaGreatDoor
section
open Go.RowKit Go.ChangeShapes
theorem star_err : "*errors.errorString" = "*" ++ "errors.errorString" := by decide
theorem row200 : ∀ u, Tryz.prog.typeName? 3 u = some "*errors.errorString" → u = 200 := fun u h =>
 typeName_ptr_named (nm := "errors.errorString") (by rw [← star_err]; kernel_rfl) (by kernel_rfl) (by decide) u (by rw [← star_err]; exact h)
theorem gn0 : Tryz.prog.globalNamed "pub-traverser/pub/vellum.ErrIteratorDone" = some 0 := by kernel_rfl
theorem gn1 : Tryz.prog.globalNamed "pub-traverser/pub/vellum.ErrOutOfOrder" = some 1 := by kernel_rfl
theorem gn2 : Tryz.prog.globalNamed "pub-traverser/pub/vellum.commonInputs" = some 2 := by kernel_rfl
theorem gn3 : Tryz.prog.globalNamed "pub-traverser/pub/vellum.commonInputsInv" = some 3 := by kernel_rfl
theorem gt0 : (Tryz.prog.globals[0]?).map (·.type) = some 54 := by kernel_rfl
theorem gt1 : (Tryz.prog.globals[1]?).map (·.type) = some 54 := by kernel_rfl
theorem done_of_laid {W : World} (h : laidMet Tryz.prog Rows.fnMergeFormatRow.laid W) : ∃ ea, Done W (fun _ => 0) 200 ea := by
 have h2 := h.filter (fun x => x.1 == "pub-traverser/pub/vellum.ErrIteratorDone" || x.1 == "pub-traverser/pub/vellum.ErrOutOfOrder")
 have hf : (Rows.fnMergeFormatRow.laid.filter (fun x : String × DataW Unit => x.1 == "pub-traverser/pub/vellum.ErrIteratorDone" || x.1 == "pub-traverser/pub/vellum.ErrOutOfOrder")) = [("pub-traverser/pub/vellum.ErrIteratorDone", Rows.laid_pub_traverser_pub_vellum_ErrIteratorDone), ("pub-traverser/pub/vellum.ErrOutOfOrder", Rows.laid_pub_traverser_pub_vellum_ErrOutOfOrder)] := by kernel_rfl
 rw [hf] at h2
 unfold Rows.laid_pub_traverser_pub_vellum_ErrIteratorDone Rows.laid_pub_traverser_pub_vellum_ErrOutOfOrder at h2
 obtain ⟨a0, a1, s0, s1, c0, c1, t0, t1, hv0, hv1, _⟩ := laid_sentinels2 h2 gn0 gt0 gn1 gt1 Tryz.underlying54 row200 Tryz.underlying200 Tryz.underlying202 rfl rfl Tryz.underlying9 (by kernel_rfl) (by kernel_rfl)
 exact ⟨a0, by simpa using World.var?_cell gn0 hv0 0, rfl⟩
end
section
open Go.RowKit Go.ChangeShapes
theorem gt2 : (Tryz.prog.globals[2]?).map (·.type) = some 29 := by kernel_rfl
theorem gt3 : (Tryz.prog.globals[3]?).map (·.type) = some 29 := by kernel_rfl
theorem spot_none {w : World} {a : Addr} {v : Value} (h : w.cell? a = some v) : a.spot = none := by
 unfold World.cell? at h
 split at h
 ·cases hs : a.spot with
  | none => rfl
  | some s => rw [hs] at h; simp at h
 ·cases h
theorem add_form {a : Addr} (h : a.spot = none) (n : Nat) : a.add n = ⟨a.block, a.off + n, none⟩ := by
 unfold Addr.add
 split
 ·rename_i e; subst e; cases a; simp_all
 ·rfl
theorem tab_of_laid {W : World} {name : String} {g : Nat} {X : DataW Unit} {r : List (String × DataW Unit)} (hg : Tryz.prog.globalNamed name = some g) (hty : (Tryz.prog.globals[g]?).map (·.type) = some 29) (hl : (rowN X).length = 256)
  (h : laidMet Tryz.prog ((name, X) :: r) W) : TabC W (fun _ => 0) g (rowN X) := by
 obtain ⟨ps, ⟨g', t', cs, fuel, p, q, hg', ht', hv, hd, _, _⟩, _, _⟩ := h
 obtain rfl := Option.some.inj (hg.symm.trans hg')
 obtain rfl := Option.some.inj (hty.symm.trans ht')
 obtain ⟨l⟩ := cs
 rcases open_ints Tryz.underlying29 Tryz.underlying5 (by kernel_rfl) hd with ⟨_, hx⟩ | ⟨a, len, cap, zs, hcs, -, hlc, hcm, hz, hx, hc, hw⟩
 ·simp only [Prod.mk.injEq] at hx
  rw [hx.1] at hl
  cases hl
 ·simp only at hcs
  subst hcs
  simp only [Prod.mk.injEq] at hx
  have hX := hx.1
  have hle : len ≤ zs.length := by rw [hz]; split <;> omega
  have e1 : rowN X = (zs.take len).map Int.toNat := by
   rw [hX]
   simp only [rowN, lits, List.map_map]
   rfl
  have hlen : len = 256 := by rw [e1, List.length_map, List.length_take] at hl; omega
  subst hlen
  have hs : a.spot = none := spot_none (by have h0 := hc 0 (by omega); simpa [Addr.add] using h0)
  have q0 := World.var?_cell hg hv 0
  refine ⟨a.block, a.off, cap, ?_, hlc, fun i hi => ?_, rfl, rfl⟩
  ·have : a = ⟨a.block, a.off, none⟩ := by cases a; simp_all
   rw [← this]
   simpa using q0
  ·have h1 := hc i (by omega)
   rw [add_form hs] at h1
   rw [h1]
   have hzi : zs[i]? = some zs[i] := List.getElem?_eq_getElem (by omega)
   have hwf := hw zs[i] (List.getElem_mem _)
   have h2 : 0 ≤ zs[i] := by
    simp only [Lit.wf, Bool.and_eq_true, decide_eq_true_eq] at hwf
    exact hwf.1
   have e2 : (rowN X).getD i 0 = zs[i].toNat := by
    rw [e1, List.getD_eq_getElem?_getD, List.getElem?_map, List.getElem?_take_of_lt hi, hzi]
    rfl
   have e3 : zs.getD i 0 = zs[i] := by rw [List.getD_eq_getElem?_getD, hzi]; rfl
   rw [e2, e3, Int.toNat_of_nonneg h2]
theorem tabs_of_laid {W : World} (h : laidMet Tryz.prog Rows.fnMergeFormatRow.laid W) : Tabs W fun _ => 0 := by
 have h2 := h.filter (fun x => x.1 == "pub-traverser/pub/vellum.commonInputs")
 have f2 : (Rows.fnMergeFormatRow.laid.filter (fun x : String × DataW Unit => x.1 == "pub-traverser/pub/vellum.commonInputs")) = [("pub-traverser/pub/vellum.commonInputs", Rows.laid_pub_traverser_pub_vellum_commonInputs)] := by kernel_rfl
 have h3 := h.filter (fun x => x.1 == "pub-traverser/pub/vellum.commonInputsInv")
 have f3 : (Rows.fnMergeFormatRow.laid.filter (fun x : String × DataW Unit => x.1 == "pub-traverser/pub/vellum.commonInputsInv")) = [("pub-traverser/pub/vellum.commonInputsInv", Rows.laid_pub_traverser_pub_vellum_commonInputsInv)] := by kernel_rfl
 rw [f2] at h2
 rw [f3] at h3
 exact ⟨tab_of_laid gn2 gt2 (by decide +kernel) h2, tab_of_laid gn3 gt3 (by decide +kernel) h3⟩
end
end Go.Proofs.YtmhlnijpimjjaaaGreatDoor
