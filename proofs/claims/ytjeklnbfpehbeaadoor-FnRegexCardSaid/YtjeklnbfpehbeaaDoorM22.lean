/- The walk of 'Begins' of the law's own side at the simple kinds of expressions. Condition: the expression is right, the text at most 40 bytes. The walk of 'Begins' of the law's own side at chains, choices, captures and repetitions. Condition: the expression is right, the text at most 40 bytes. -/
import Derived.Test.YtjeklnbfpehbeaaDoorM21
set_option linter.unusedVariables false
/- The walk of 'Begins' of the law's own side at the simple kinds of expressions. Condition: the expression is right, the text at most 40 bytes. -/
namespace Go.Proofs.YtjeklnbfpehbeaaDoor
open Go.RowKit

section
variable {P : Program} {ops : Array Oper} {Q : Exit → Act → World → Prop} {S : World → Prop} {pu fin : Nat → Bool}
/-- One reader behind a test that holds. -/
theorem seqV_readG {rd : Nat → Bool} {i : Nat} {o : Oper} {r : List Nat} {a : Act} {w : World} {v : Value} (hw : Region.wanted o (yielded ops a.tmps) = true) (hv : ∀ w', S w' → (execOp a.eval o).run P w' = .ok (.value v) w') (h : seqV P ops Q S rd pu fin r (a.put o.dst v) w)
    (ho : ops[i]? = some o) (hr : rd i = true) (hp : pu i = false) : seqV P ops Q S rd pu fin (i :: r) a w := by
  simp only [seqV, ho, hr, if_true]
  exact ⟨v, .inl ⟨hw, fun w' hw => hv w' (hw.resolve_left (by simp [hp]))⟩, h⟩
theorem seqV_pureG {rd : Nat → Bool} {i : Nat} {o : Oper} {r : List Nat} {a : Act} {w : World} {v : Value} (hw : Region.wanted o (yielded ops a.tmps) = true) (hv : ∀ w', (execOp a.eval o).run P w' = .ok (.value v) w') (h : seqV P ops Q S rd pu fin r (a.put o.dst v) w)
    (ho : ops[i]? = some o) (hr : rd i = true) : seqV P ops Q S rd pu fin (i :: r) a w := by
  simp only [seqV, ho, hr, if_true]
  exact ⟨v, .inl ⟨hw, fun w' _ => hv w'⟩, h⟩
/-- One reader behind a test that does not hold. -/
theorem seqV_skip {rd : Nat → Bool} {i : Nat} {o : Oper} {r : List Nat} {a : Act} {w : World} (hw : Region.wanted o (yielded ops a.tmps) = false) (h : seqV P ops Q S rd pu fin r (a.put o.dst undef) w)
    (ho : ops[i]? = some o) (hr : rd i = true) : seqV P ops Q S rd pu fin (i :: r) a w := by
  simp only [seqV, ho, hr, if_true]
  exact ⟨undef, .inr ⟨hw, rfl⟩, h⟩
end

def BgC (r : RE) : Prop := ∀ (w : World) (v fv : Value) (t : ByteArray) (A : List Bool), ReAt w r v → SetAt w fv A → A.length = t.size + 1 → t.size ≤ 40 → Calls Tryd.prog 23 #[v, .string t, fv] w (BgPost w (Begs (Lang r) (bytesOf t) (On A)))
theorem no_begs {L : Words} {bs : List Nat} {A : List Bool} (h : A.all (!·) = true) : ¬ Begs L bs (On A) := by
  rintro ⟨i, -, h2, -⟩
  rw [List.all_eq_true] at h
  have := h true (List.mem_of_getElem? h2)
  simp at this

set_option maxRecDepth 100000 in
set_option maxHeartbeats 2000000 in
theorem bg_emp : BgC .emp := by
  intro w v fv t A hv hA hl ht
  obtain ⟨uA, un, uc, um, ux, vA, vn, vc, rfl⟩ := hv.form
  clear hv
  simp only [opOf]
  have hsome : Hid (∃ w, Lang .emp w) := Lib.hid (by first | exact lang_some _ hwf | exact lang_some _ (by simp only [WfR]))
  have hA0 := hA
  obtain ⟨b1, o1, c1, cs1, rfl, hcA, hbA, hcellA⟩ := hA0
  rw [hl] at hA ⊢
  have hF1 : Fr (fun _ => False) w (w.alloc (.cells #[.int .i64 2, .slice uA un uc, .int .i64 um, .int .i64 ux, .bool false, .bool false, .slice vA vn vc] 25)) := (Fr.refl _ w).alloc _
  have hB0 : Blk (w.alloc (.cells #[.int .i64 2, .slice uA un uc, .int .i64 um, .int .i64 ux, .bool false, .bool false, .slice vA vn vc] 25)) w.heap.size [.int .i64 2, .slice uA un uc, .int .i64 um, .int .i64 ux, .bool false, .bool false, .slice vA vn vc] 25 := Blk.new w [_, _, _, _, _, _, _] 25
  have hA1 := hA.fr hF1 (fun _ _ _ h => h)
  have hnone := none_spec hA1 (by rw [hl]; omega)
  obtain ⟨x, hx⟩ : ∃ x, A[t.size]? = some x := ⟨_, List.getElem?_eq_getElem (by omega)⟩
  have r0 := hF1.cell (hcellA t.size x hx) (fun h => h)
  have HI := Lib.hid (And.intro hA1 (And.intro hF1 (And.intro hB0 (And.intro hx (And.intro hl (And.intro hcellA hbA))))))
  clear hA hA1 hF1 hB0 hbA hcellA hcA hx hl
  go_enter Tryd.func23, Tryd.ntmps23
  go_wp2_with fail
  refine hnone.mono ?_
  rintro e w2 ⟨rfl, rfl⟩
  clear hnone
  by_cases hall : A.all (!·) = true
  · rw [hall]
    have hH := Lib.hid hall
    clear hall
    go_wp2_with fail
    go_ret
    exact ⟨false, rfl, ⟨fun e => by simp at e, fun e => absurd e (no_begs hH.out)⟩, HI.out.2.1⟩
  have hall' : A.all (!·) = false := by simpa using hall
  rw [hall']
  clear hall hall'
  cases x with
  | true =>
    go_wp2_with fail
    go_ret
    exact ⟨true, rfl, ⟨fun _ => begs_end (show On A (bytesOf t).length by rw [bytes_len]; exact HI.out.2.2.2.1) hsome.out, fun _ => rfl⟩, HI.out.2.1⟩
  | false =>
    have hNn : Hid (¬ On A (bytesOf t).length) := Lib.hid (by rw [bytes_len]; intro h; have h2 := HI.out.2.2.2.1; unfold On at h; rw [h2] at h; simp at h)
    go_wp2_with fail
    go_ret
    refine ⟨false, rfl, ⟨fun e => by simp at e, fun e => ?_⟩, HI.out.2.1⟩
    simp only [Lang] at e
    exact absurd (begs_one.1 e) hNn.out

theorem begs_lit {bs W : List Nat} {S : Nat → Prop} (hn : ¬ S bs.length) : Begs (fun w => w = W) bs S ↔ ∃ i, i < bs.length ∧ S i ∧ bs.drop i = W.take (bs.length - i) ∧ bs.length - i ≤ W.length := by
  constructor
  · rintro ⟨i, h1, h2, v, h3⟩
    have hi : i < bs.length := by
      by_cases e : i = bs.length
      · subst e; exact absurd h2 hn
      · omega
    refine ⟨i, hi, h2, ?_, ?_⟩
    · rw [← h3, List.take_left']
      rw [List.length_drop]
    · rw [← h3, List.length_append, List.length_drop]; omega
  · rintro ⟨i, h1, h2, h3, h4⟩
    exact ⟨i, by omega, h2, W.drop (bs.length - i), by rw [h3, List.take_append_drop]⟩

set_option maxRecDepth 100000 in
set_option maxHeartbeats 4000000 in
theorem bg_lit (rs : List Nat) (hwf : WfR (.lit rs)) : BgC (.lit rs) := by
  intro w v fv t A hv hA hl ht
  have hwf' := hwf
  simp only [WfR] at hwf'
  obtain @⟨_, vA, vc, rv, um, ux, xs, hru, hr0, hm, hx, hs⟩ := hv
  obtain ⟨uA, uc, hrv, -⟩ := id hru
  obtain ⟨un, hun⟩ : ∃ M, Hid (M = rs.length) := ⟨_, Lib.hid rfl⟩
  simp only [runesOf] at hru hrv
  rw [← hun.out] at hrv
  subst hrv
  have hun4 : un ≤ 1000 := by have := hun.out; have := hwf'.1; omega
  have HH := Lib.hid (And.intro hru hwf'.2)
  clear hru hr0 hm hx hs hwf'
  simp only [opOf, subsOf, List.length_nil]
  obtain ⟨vn, hvn⟩ : ∃ z, Hid (z = 0) := ⟨0, Lib.hid rfl⟩
  rw [← hvn.out]
  have hsome : Hid (∃ w, Lang (.lit rs) w) := Lib.hid (by first | exact lang_some _ hwf | exact lang_some _ (by simp only [WfR]))
  have hA0 := hA
  obtain ⟨b1, o1, c1, cs1, rfl, hcA, hbA, hcellA⟩ := hA0
  rw [hl] at hA ⊢
  have hF1 : Fr (fun _ => False) w (w.alloc (.cells #[.int .i64 3, .slice uA un uc, .int .i64 um, .int .i64 ux, .bool false, .bool false, .slice vA vn vc] 25)) := (Fr.refl _ w).alloc _
  have hB0 : Blk (w.alloc (.cells #[.int .i64 3, .slice uA un uc, .int .i64 um, .int .i64 ux, .bool false, .bool false, .slice vA vn vc] 25)) w.heap.size [.int .i64 3, .slice uA un uc, .int .i64 um, .int .i64 ux, .bool false, .bool false, .slice vA vn vc] 25 := Blk.new w [_, _, _, _, _, _, _] 25
  have hA1 := hA.fr hF1 (fun _ _ _ h => h)
  have hnone := none_spec hA1 (by rw [hl]; omega)
  obtain ⟨x, hx⟩ : ∃ x, A[t.size]? = some x := ⟨_, List.getElem?_eq_getElem (by omega)⟩
  have r0 := hF1.cell (hcellA t.size x hx) (fun h => h)
  have HI := Lib.hid (And.intro hA1 (And.intro hF1 (And.intro hB0 (And.intro hx (And.intro hl (And.intro hcellA hbA))))))
  clear hA hA1 hF1 hB0 hbA hcellA hcA hx hl
  go_enter Tryd.func23, Tryd.ntmps23
  go_wp2_with fail
  refine hnone.mono ?_
  rintro e w2 ⟨rfl, rfl⟩
  clear hnone
  by_cases hall : A.all (!·) = true
  · rw [hall]
    have hH := Lib.hid hall
    clear hall
    go_wp2_with fail
    go_ret
    exact ⟨false, rfl, ⟨fun e => by simp at e, fun e => absurd e (no_begs hH.out)⟩, HI.out.2.1⟩
  have hall' : A.all (!·) = false := by simpa using hall
  rw [hall']
  clear hall hall'
  cases x with
  | true =>
    go_wp2_with fail
    go_ret
    exact ⟨true, rfl, ⟨fun _ => begs_end (show On A (bytesOf t).length by rw [bytes_len]; exact HI.out.2.2.2.1) hsome.out, fun _ => rfl⟩, HI.out.2.1⟩
  | false =>
    have hNn : Hid (¬ On A (bytesOf t).length) := Lib.hid (by rw [bytes_len]; intro h; have h2 := HI.out.2.2.2.1; unfold On at h; rw [h2] at h; simp at h)
    go_wp2_with fail
    generalize hWW : (w.alloc (.cells #[.int .i64 3, .slice uA un uc, .int .i64 um, .int .i64 ux, .bool false, .bool false, .slice vA vn vc] 25)) = W2 at *
    clear hWW
    go_loopg [7, 8] (un + 1) (fun g s i wr => ∃ (k : Nat) (S : ByteArray), k ≤ un ∧ g = un - k + 1 ∧ i = .int .i64 (k : Int) ∧ s = .string S ∧ Hid (bytesOf S = (rs.take k).flatMap enc) ∧ Fr (fun _ => False) W2 wr)
    case atStart => exact ⟨0, ⟨#[]⟩, by omega, by omega, rfl, rfl, Lib.hid (by simp [bytesOf]), Fr.refl _ W2⟩
    case round =>
      obtain ⟨k, S, hk, rfl, rfl, rfl, hS, hF⟩ := hrel
      have y1 := (HI.out.2.2.1.fr hF (fun h => h)).cell 1 rfl
      have hHF := Lib.hid hF
      clear hF
      by_cases hlt : k < un
      · have e1 : (k : Int) < (un : Int) := by omega
        obtain ⟨r, hr⟩ : ∃ r, rs[k]? = some r := ⟨_, List.getElem?_eq_getElem (by rw [← hun.out]; exact hlt)⟩
        obtain ⟨b, o, c', e3, r1⟩ := HH.out.1.get hr
        simp at e3
        obtain ⟨rfl, -, rfl⟩ := e3
        have r2 := (HI.out.2.1.trans hHF.out (fun _ _ h => h)).cell r1 (fun h => h)
        have hE := enc_spec wr (HH.out.2 r (List.mem_of_getElem? hr))
        have hX := Lib.hid hr
        clear r1 hr
        obtain ⟨X, hXX⟩ : ∃ X, Hid (X = strB (enc r)) := ⟨_, Lib.hid rfl⟩
        rw [← hXX.out] at hE
        have hSs : S.size ≤ 4000 := by
          rw [← bytes_len, hS.out]
          have h1 := flat_len4 (rs.take k)
          have h2 : (rs.take k).length ≤ k := by rw [List.length_take]; omega
          omega
        have hXs : X.size ≤ 4 := by rw [hXX.out, strB_size]; exact enc_len_le r
        go_wp2_with fail
        refine hE.mono ?_
        rintro e w1 ⟨rfl, hf⟩
        clear hE y1 r2
        go_wp2_with fail
        go_roundg (un - (k + 1) + 1)
        case measure => omega
        case rel => exact ⟨k + 1, S ++ X, by omega, rfl, by simp, rfl, Lib.hid (by rw [bytes_app, hS.out, lit_take hX.out, hXX.out, strB_enc (HH.out.2 r (List.mem_of_getElem? hX.out))]), hHF.out.trans hf (fun _ _ h => h)⟩
      · obtain rfl : k = un := by omega
        have e1 : ¬ ((k : Int) < (k : Int)) := by omega
        have hSb : bytesOf S = rs.flatMap enc := by rw [hS.out, List.take_of_length_le (by rw [← hun.out]; exact Nat.le_refl _)]
        have hSl : S.size ≤ 4000 := by rw [← bytes_len, hSb]; have := flat_len4 rs; have := hun.out; omega
        have HS := Lib.hid hSb
        clear hSb hS
        go_wp2_with fail
        clear y1
        go_loopg [9] (t.size + 1) (fun g i w4 => ∃ (q : Nat), q ≤ t.size ∧ g = t.size - q + 1 ∧ i = .int .i64 (q : Int) ∧ Hid (∀ i, i < q → ¬ (On A i ∧ (bytesOf t).drop i = (rs.flatMap enc).take ((bytesOf t).length - i) ∧ (bytesOf t).length - i ≤ (rs.flatMap enc).length)) ∧ Fr (fun _ => False) W2 w4)
        case atStart => exact ⟨0, by omega, rfl, rfl, Lib.hid (fun i h => by omega), hHF.out⟩
        case round =>
          obtain ⟨q, hq, rfl, rfl, hno, hF⟩ := hrel
          by_cases hlt : q < t.size
          · have e2 : (q : Int) < (t.size : Int) := by omega
            obtain ⟨x, hx⟩ : ∃ x, A[q]? = some x := ⟨_, List.getElem?_eq_getElem (by rw [HI.out.2.2.2.2.1]; omega)⟩
            have r1 : wr.drew.cell? ⟨b1, o1 + q, none⟩ = some (.bool x) := (HI.out.2.1.trans hF (fun _ _ h => h)).drew.cell (HI.out.2.2.2.2.2.1 q x hx) (fun h => h)
            have HX := Lib.hid (And.intro hx hF)
            clear hx hF r0
            go_wp2_with fail
            have hqn : (bytesOf t).length - q = t.size - q := by rw [bytes_len]
            have hSz : (rs.flatMap enc).length = S.size := by rw [← HS.out, bytes_len]
            have HQ := Lib.hid (And.intro hqn hSz)
            obtain ⟨D, hD⟩ : ∃ D, Hid (D = t.size - q) := ⟨_, Lib.hid rfl⟩
            have eb : (q : Int) < (t.size : Int) + 1 := by omega
            have eb0 : (0 : Int) ≤ (q : Int) := by omega
            have eb1 : (q : Int) ≤ (t.size : Int) := by omega
            have hDl : D ≤ 40 := by have := hD.out; omega
            have ewD : IntKind.i64.wrap (D : Int) = (D : Int) := IntWalk.i64_in _ (by omega)
            have eD0 : (0 : Int) ≤ (D : Int) := by omega
            have ew : wrap64 ((t.size : Int) - (q : Int)) = (D : Int) := by rw [IntWalk.wrap64_in _ (by omega)]; have := hD.out; omega
            have ew2 : IntKind.i64.wrap ((t.size : Int) - (q : Int)) = (D : Int) := by rw [IntWalk.i64_in _ (by omega)]; have := hD.out; omega
            have eqs : (t.size : Int) - (q : Int) = (D : Int) := by have := hD.out; omega
            clear hqn hSz
            cases x with
            | false =>
              refine wp_region_seqV (fun w' => w'.cell? ⟨b1, o1 + q, none⟩ = some (.bool false)) (fun i => true) (fun i => ![3].contains i) (fun i => false) [0, 1, 2, 3, 4, 5, 6, 7, 8, 9, 10, 11, 12, 13, 14, 15, 16, 17, 18, 19, 20, 21, 22, 23, 24] (by kernel_rfl) (by kernel_rfl) (fun c a d v w h => by cases d <;> exact h) r1 ?_
              iterate 3 (apply seqV_pure (ho := rfl) (hr := rfl) (hg := rfl); (intro w'; go_simp; rfl))
              iterate 1 (apply seqV_read (ho := rfl) (hr := rfl) (hp := rfl) (hg := rfl); (intro w' q1; go_simp; rfl))
              iterate 1 (apply seqV_pure (ho := rfl) (hr := rfl) (hg := rfl); (intro w'; go_simp; rfl))
              iterate 7 (apply seqV_skip (ho := rfl) (hr := rfl) (hw := by kernel_rfl))
              go_simp
              iterate 2 (apply seqV_pure (ho := rfl) (hr := rfl) (hg := rfl); (intro w'; go_simp; rfl))
              iterate 10 (apply seqV_skip (ho := rfl) (hr := rfl) (hw := by kernel_rfl))
              go_simp
              iterate 1 (apply seqV_pure (ho := rfl) (hr := rfl) (hg := rfl); (intro w'; go_simp; rfl))
              unfold seqV
              go_wp2_with fail
              go_roundg (t.size - (q + 1) + 1)
              case measure => omega
              case rel => exact ⟨q + 1, by omega, rfl, by simp, Lib.hid (fun i hi => by
                by_cases e : i = q
                · subst e; exact fun h => by have h1 := h.1; have h2 := HX.out.1; unfold On at h1; rw [h2] at h1; simp at h1
                · exact hno.out i (by omega)), HX.out.2.drew⟩
            | true =>
              refine wp_region_seqV (fun w' => w'.cell? ⟨b1, o1 + q, none⟩ = some (.bool true)) (fun i => true) (fun i => ![3].contains i) (fun i => false) [0, 1, 2, 3, 4, 5, 6, 7, 8, 9, 10, 11, 12, 13, 14, 15, 16, 17, 18, 19, 20, 21, 22, 23, 24] (by kernel_rfl) (by kernel_rfl) (fun c a d v w h => by cases d <;> exact h) r1 ?_
              by_cases cl : D ≤ S.size
              · have cl' : (D : Int) ≤ (S.size : Int) := by omega
                by_cases ce : bytesOf (S.extract 0 D) = bytesOf (t.extract q t.size)
                · have cee : ((S.extract 0 D).toList == (t.extract q t.size).toList) = true := by rw [str_eq]; exact decide_eq_true ce
                  have hce := Lib.hid ce
                  clear ce
                  iterate 3 (apply seqV_pure (ho := rfl) (hr := rfl) (hg := rfl); (intro w'; go_simp; rfl))
                  iterate 1 (apply seqV_read (ho := rfl) (hr := rfl) (hp := rfl) (hg := rfl); (intro w' q1; go_simp; rfl))
                  iterate 1 (apply seqV_pure (ho := rfl) (hr := rfl) (hg := rfl); (intro w'; go_simp; rfl))
                  iterate 7 (apply seqV_pureG (ho := rfl) (hr := rfl) (hw := by kernel_rfl); (intro w'; go_simp; rfl))
                  go_simp
                  iterate 2 (apply seqV_pure (ho := rfl) (hr := rfl) (hg := rfl); (intro w'; go_simp; rfl))
                  iterate 10 (apply seqV_pureG (ho := rfl) (hr := rfl) (hw := by kernel_rfl); (intro w'; go_simp; rfl))
                  go_simp
                  iterate 1 (apply seqV_pure (ho := rfl) (hr := rfl) (hg := rfl); (intro w'; go_simp; rfl))
                  unfold seqV
                  go_wp2_with fail
                  go_ret
                  refine ⟨true, rfl, ⟨fun _ => ?_, fun _ => rfl⟩, (HI.out.2.1.trans HX.out.2 (fun _ _ h => h)).drew⟩
                  simp only [Lang]
                  refine (begs_lit hNn.out).2 ⟨q, by rw [bytes_len]; exact hlt, HX.out.1, ?_, by rw [HQ.out.1, HQ.out.2]; have := hD.out; omega⟩
                  have h := hce.out
                  rw [bytes_ext, bytes_ext, List.drop_zero, HS.out, List.take_of_length_le (l := bytesOf t) (by rw [bytes_len]; exact Nat.le_refl _)] at h
                  rw [HQ.out.1, ← hD.out]
                  exact h.symm
                · have cee : ((S.extract 0 D).toList == (t.extract q t.size).toList) = false := by rw [str_eq]; exact decide_eq_false ce
                  have hce := Lib.hid ce
                  clear ce
                  iterate 3 (apply seqV_pure (ho := rfl) (hr := rfl) (hg := rfl); (intro w'; go_simp; rfl))
                  iterate 1 (apply seqV_read (ho := rfl) (hr := rfl) (hp := rfl) (hg := rfl); (intro w' q1; go_simp; rfl))
                  iterate 1 (apply seqV_pure (ho := rfl) (hr := rfl) (hg := rfl); (intro w'; go_simp; rfl))
                  iterate 7 (apply seqV_pureG (ho := rfl) (hr := rfl) (hw := by kernel_rfl); (intro w'; go_simp; rfl))
                  go_simp
                  iterate 2 (apply seqV_pure (ho := rfl) (hr := rfl) (hg := rfl); (intro w'; go_simp; rfl))
                  iterate 10 (apply seqV_pureG (ho := rfl) (hr := rfl) (hw := by kernel_rfl); (intro w'; go_simp; rfl))
                  go_simp
                  iterate 1 (apply seqV_pure (ho := rfl) (hr := rfl) (hg := rfl); (intro w'; go_simp; rfl))
                  unfold seqV
                  go_wp2_with fail
                  go_roundg (t.size - (q + 1) + 1)
                  case measure => omega
                  case rel => exact ⟨q + 1, by omega, rfl, by simp, Lib.hid (fun i hi => by
                    by_cases e : i = q
                    · subst e; exact fun h => hce.out (by
                        rw [bytes_ext, bytes_ext, List.drop_zero, HS.out, List.take_of_length_le (l := bytesOf t) (by rw [bytes_len]; exact Nat.le_refl _)]
                        have h2 := h.2.1
                        rw [HQ.out.1, ← hD.out] at h2
                        exact h2.symm)
                    · exact hno.out i (by omega)), HX.out.2.drew⟩
              · have cl' : ¬ ((D : Int) ≤ (S.size : Int)) := by omega
                iterate 3 (apply seqV_pure (ho := rfl) (hr := rfl) (hg := rfl); (intro w'; go_simp; rfl))
                iterate 1 (apply seqV_read (ho := rfl) (hr := rfl) (hp := rfl) (hg := rfl); (intro w' q1; go_simp; rfl))
                iterate 1 (apply seqV_pure (ho := rfl) (hr := rfl) (hg := rfl); (intro w'; go_simp; rfl))
                iterate 7 (apply seqV_pureG (ho := rfl) (hr := rfl) (hw := by kernel_rfl); (intro w'; go_simp; rfl))
                go_simp
                iterate 2 (apply seqV_pure (ho := rfl) (hr := rfl) (hg := rfl); (intro w'; go_simp; rfl))
                iterate 10 (apply seqV_skip (ho := rfl) (hr := rfl) (hw := by kernel_rfl))
                go_simp
                iterate 1 (apply seqV_pure (ho := rfl) (hr := rfl) (hg := rfl); (intro w'; go_simp; rfl))
                unfold seqV
                go_wp2_with fail
                go_roundg (t.size - (q + 1) + 1)
                case measure => omega
                case rel => exact ⟨q + 1, by omega, rfl, by simp, Lib.hid (fun i hi => by
                  by_cases e : i = q
                  · subst e; exact fun h => by have h2 := h.2.2; rw [HQ.out.1, HQ.out.2] at h2; have := hD.out; omega
                  · exact hno.out i (by omega)), HX.out.2.drew⟩
          · obtain rfl : q = t.size := by omega
            have e2 : ¬ ((t.size : Int) < (t.size : Int)) := by omega
            have HX := Lib.hid hF
            clear hF
            go_wp2_with fail
            go_ret
            refine ⟨false, rfl, ⟨fun e => by simp at e, fun e => ?_⟩, HI.out.2.1.trans HX.out (fun _ _ h => h)⟩
            simp only [Lang] at e
            obtain ⟨i, h1, h2, h3, h4⟩ := (begs_lit hNn.out).1 e
            exact absurd ⟨h2, h3, h4⟩ (hno.out i (by rw [bytes_len] at h1; exact h1))
end Go.Proofs.YtjeklnbfpehbeaaDoor

/- The walk of 'Begins' of the law's own side at chains, choices, captures and repetitions. Condition: the expression is right, the text at most 40 bytes. -/
namespace Go.Proofs.YtjeklnbfpehbeaaDoor
open Go.RowKit

set_option maxRecDepth 100000 in
set_option maxHeartbeats 4000000 in
theorem bg_cap (r : RE) (hwf : WfR (.cap r)) (ih : BgC r) : BgC (.cap r) := by
  intro w v fv t A hv hA hl ht
  obtain @⟨_, vA, vc, rv, um, ux, xs, hru, hr0, hm, hx, hs⟩ := hv
  obtain ⟨uA, uc, hrv, -⟩ := id hru
  obtain ⟨un, hun⟩ : ∃ z, Hid (z = (runesOf (.cap r)).length) := ⟨_, Lib.hid rfl⟩
  rw [← hun.out] at hrv
  subst hrv
  have HKd : Hid (KidsR w (.cap r) vA xs) := Lib.hid ⟨hx, hs⟩
  clear hru hr0 hm hx hs
  simp only [opOf]
  obtain ⟨vn, hvn⟩ : ∃ z, Hid (z = (subsOf (.cap r)).length) := ⟨_, Lib.hid rfl⟩
  rw [← hvn.out]
  have hvl : vn = 1 := hvn.out
  subst hvl
  have hsome : Hid (∃ w, Lang (.cap r) w) := Lib.hid (by first | exact lang_some _ hwf | exact lang_some _ (by simp only [WfR]))
  have hA0 := hA
  obtain ⟨b1, o1, c1, cs1, rfl, hcA, hbA, hcellA⟩ := hA0
  rw [hl] at hA ⊢
  have hF1 : Fr (fun _ => False) w (w.alloc (.cells #[.int .i64 13, .slice uA un uc, .int .i64 um, .int .i64 ux, .bool false, .bool false, .slice vA 1 vc] 25)) := (Fr.refl _ w).alloc _
  have hB0 : Blk (w.alloc (.cells #[.int .i64 13, .slice uA un uc, .int .i64 um, .int .i64 ux, .bool false, .bool false, .slice vA 1 vc] 25)) w.heap.size [.int .i64 13, .slice uA un uc, .int .i64 um, .int .i64 ux, .bool false, .bool false, .slice vA 1 vc] 25 := Blk.new w [_, _, _, _, _, _, _] 25
  have hA1 := hA.fr hF1 (fun _ _ _ h => h)
  have hnone := none_spec hA1 (by rw [hl]; omega)
  obtain ⟨x, hx⟩ : ∃ x, A[t.size]? = some x := ⟨_, List.getElem?_eq_getElem (by omega)⟩
  have r0 := hF1.cell (hcellA t.size x hx) (fun h => h)
  have HI := Lib.hid (And.intro hA1 (And.intro hF1 (And.intro hB0 (And.intro hx (And.intro hl (And.intro hcellA hbA))))))
  clear hA hA1 hF1 hB0 hbA hcellA hcA hx hl
  go_enter Tryd.func23, Tryd.ntmps23
  go_wp2_with fail
  refine hnone.mono ?_
  rintro e w2 ⟨rfl, rfl⟩
  clear hnone
  by_cases hall : A.all (!·) = true
  · rw [hall]
    have hH := Lib.hid hall
    clear hall
    go_wp2_with fail
    go_ret
    exact ⟨false, rfl, ⟨fun e => by simp at e, fun e => absurd e (no_begs hH.out)⟩, HI.out.2.1⟩
  have hall' : A.all (!·) = false := by simpa using hall
  rw [hall']
  clear hall hall'
  cases x with
  | true =>
    go_wp2_with fail
    go_ret
    exact ⟨true, rfl, ⟨fun _ => begs_end (show On A (bytesOf t).length by rw [bytes_len]; exact HI.out.2.2.2.1) hsome.out, fun _ => rfl⟩, HI.out.2.1⟩
  | false =>
    have hNn : Hid (¬ On A (bytesOf t).length) := Lib.hid (by rw [bytes_len]; intro h; have h2 := HI.out.2.2.2.1; unfold On at h; rw [h2] at h; simp at h)
    have y6 := HI.out.2.2.1.cell 6 rfl
    obtain ⟨b, ob, x0, x1, x2, x3, x4, x5, x6, rfl, hre, z0, z1, z2, z3, z4, z5, z6⟩ := HKd.out.get HI.out.2.1 (fun _ _ h => h) (k := 0) (show (subsOf (.cap r))[0]? = some r from rfl)
    simp only [Nat.zero_mul, Nat.add_zero] at z0 z1 z2 z3 z4 z5 z6
    have hc := ih _ _ _ t A hre HI.out.1 HI.out.2.2.2.2.1 ht
    clear hre
    go_wp2_with fail
    refine hc.mono ?_
    rintro e w3 ⟨z, rfl, hz, hf⟩
    clear hc z0 z1 z2 z3 z4 z5 z6 y6 r0
    have HZ := Lib.hid (And.intro hz hf)
    clear hz hf
    go_wp2_with fail
    go_ret
    refine ⟨z, rfl, ?_, HI.out.2.1.trans HZ.out.2 (fun _ _ h => h)⟩
    simp only [Lang]
    exact HZ.out.1

set_option maxRecDepth 100000 in
set_option maxHeartbeats 4000000 in
theorem bg_alt (l : List RE) (hwf : WfR (.alt l)) (ih : ∀ r, r ∈ l → BgC r) : BgC (.alt l) := by
  intro w v fv t A hv hA hl ht
  obtain @⟨_, vA, vc, rv, um, ux, xs, hru, hr0, hm, hx, hs⟩ := hv
  obtain ⟨uA, uc, hrv, -⟩ := id hru
  obtain ⟨un, hun⟩ : ∃ z, Hid (z = (runesOf (.alt l)).length) := ⟨_, Lib.hid rfl⟩
  rw [← hun.out] at hrv
  subst hrv
  have HKd : Hid (KidsR w (.alt l) vA xs) := Lib.hid ⟨hx, hs⟩
  clear hru hr0 hm hx hs
  simp only [opOf]
  obtain ⟨vn, hvn⟩ : ∃ z, Hid (z = (subsOf (.alt l)).length) := ⟨_, Lib.hid rfl⟩
  rw [← hvn.out]
  have hvl : vn ≤ 1000 := by rw [hvn.out]; have h := hwf; simp only [WfR] at h; exact h.2.1
  have hsome : Hid (∃ w, Lang (.alt l) w) := Lib.hid (by first | exact lang_some _ hwf | exact lang_some _ (by simp only [WfR]))
  have hA0 := hA
  obtain ⟨b1, o1, c1, cs1, rfl, hcA, hbA, hcellA⟩ := hA0
  rw [hl] at hA ⊢
  have hF1 : Fr (fun _ => False) w (w.alloc (.cells #[.int .i64 19, .slice uA un uc, .int .i64 um, .int .i64 ux, .bool false, .bool false, .slice vA vn vc] 25)) := (Fr.refl _ w).alloc _
  have hB0 : Blk (w.alloc (.cells #[.int .i64 19, .slice uA un uc, .int .i64 um, .int .i64 ux, .bool false, .bool false, .slice vA vn vc] 25)) w.heap.size [.int .i64 19, .slice uA un uc, .int .i64 um, .int .i64 ux, .bool false, .bool false, .slice vA vn vc] 25 := Blk.new w [_, _, _, _, _, _, _] 25
  have hA1 := hA.fr hF1 (fun _ _ _ h => h)
  have hnone := none_spec hA1 (by rw [hl]; omega)
  obtain ⟨x, hx⟩ : ∃ x, A[t.size]? = some x := ⟨_, List.getElem?_eq_getElem (by omega)⟩
  have r0 := hF1.cell (hcellA t.size x hx) (fun h => h)
  have HI := Lib.hid (And.intro hA1 (And.intro hF1 (And.intro hB0 (And.intro hx (And.intro hl (And.intro hcellA hbA))))))
  clear hA hA1 hF1 hB0 hbA hcellA hcA hx hl
  go_enter Tryd.func23, Tryd.ntmps23
  go_wp2_with fail
  refine hnone.mono ?_
  rintro e w2 ⟨rfl, rfl⟩
  clear hnone
  by_cases hall : A.all (!·) = true
  · rw [hall]
    have hH := Lib.hid hall
    clear hall
    go_wp2_with fail
    go_ret
    exact ⟨false, rfl, ⟨fun e => by simp at e, fun e => absurd e (no_begs hH.out)⟩, HI.out.2.1⟩
  have hall' : A.all (!·) = false := by simpa using hall
  rw [hall']
  clear hall hall'
  cases x with
  | true =>
    go_wp2_with fail
    go_ret
    exact ⟨true, rfl, ⟨fun _ => begs_end (show On A (bytesOf t).length by rw [bytes_len]; exact HI.out.2.2.2.1) hsome.out, fun _ => rfl⟩, HI.out.2.1⟩
  | false =>
    have hNn : Hid (¬ On A (bytesOf t).length) := Lib.hid (by rw [bytes_len]; intro h; have h2 := HI.out.2.2.2.1; unfold On at h; rw [h2] at h; simp at h)
    go_wp2_with fail
    generalize hWW : (w.alloc (.cells #[.int .i64 19, .slice uA un uc, .int .i64 um, .int .i64 ux, .bool false, .bool false, .slice vA vn vc] 25)) = W2 at *
    clear hWW r0
    go_loopg [12] (vn + 1) (fun g i wr => ∃ k : Nat, k ≤ vn ∧ g = vn - k + 1 ∧ i = .int .i64 (k : Int) ∧ Hid (∀ (i : Nat) (r : RE), i < k → l[i]? = some r → ¬ Begs (Lang r) (bytesOf t) (On A)) ∧ Fr (fun _ => False) W2 wr)
    case atStart => exact ⟨0, by omega, by omega, rfl, Lib.hid (fun i r h => by omega), Fr.refl _ W2⟩
    case round =>
      obtain ⟨k, hk, rfl, rfl, hno, hF⟩ := hrel
      have y6 := (HI.out.2.2.1.fr hF (fun h => h)).cell 6 rfl
      by_cases hlt : k < vn
      · have e1 : (k : Int) < (vn : Int) := by omega
        obtain ⟨r', hr'⟩ : ∃ r', l[k]? = some r' := ⟨_, List.getElem?_eq_getElem (by have := hvn.out; simp only [subsOf] at this; omega)⟩
        obtain ⟨b, ob, x0, x1, x2, x3, x4, x5, x6, rfl, hre, z0, z1, z2, z3, z4, z5, z6⟩ := HKd.out.get (HI.out.2.1.trans hF (fun _ _ h => h)) (fun _ _ h => h) (show (subsOf (.alt l))[k]? = some r' from hr')
        have hc := ih r' (List.mem_of_getElem? hr') wr _ _ t A hre (HI.out.1.fr hF (fun _ _ _ h => h)) HI.out.2.2.2.2.1 ht
        have HX := Lib.hid (And.intro hr' hF)
        clear hr' hF hre
        go_wp2_with fail
        refine hc.mono ?_
        rintro e w3 ⟨z, rfl, hz, hf⟩
        clear hc z0 z1 z2 z3 z4 z5 z6 y6
        have HZ := Lib.hid (And.intro hz hf)
        clear hz hf
        cases z with
        | true =>
          go_wp2_with fail
          go_ret
          refine ⟨true, rfl, ⟨fun _ => ?_, fun _ => rfl⟩, (HI.out.2.1.trans HX.out.2 (fun _ _ h => h)).trans HZ.out.2 (fun _ _ h => h)⟩
          obtain ⟨i, h1, h2, v, h3⟩ := HZ.out.1.1 (by trivial)
          simp only [Lang, langs_eq]
          exact ⟨i, h1, h2, v, Lang r', List.mem_map_of_mem (List.mem_of_getElem? HX.out.1), h3⟩
        | false =>
          go_wp2_with fail
          go_roundg (vn - (k + 1) + 1)
          case measure => omega
          case rel => exact ⟨k + 1, by omega, rfl, by simp, Lib.hid (fun i r hi hr hb => by
            by_cases e : i = k
            · subst e
              rw [HX.out.1] at hr
              injection hr with hr
              subst hr
              have := HZ.out.1.2 hb
              simp at this
            · exact hno.out i r (by omega) hr hb), HX.out.2.trans HZ.out.2 (fun _ _ h => h)⟩
      · obtain rfl : k = vn := by omega
        have e1 : ¬ ((k : Int) < (k : Int)) := by omega
        have HX := Lib.hid hF
        clear hF
        go_wp2_with fail
        go_ret
        refine ⟨false, rfl, ⟨fun e => by simp at e, fun e => ?_⟩, HI.out.2.1.trans HX.out (fun _ _ h => h)⟩
        simp only [Lang, langs_eq] at e
        obtain ⟨i, h1, h2, v, L, hL, h3⟩ := e
        obtain ⟨r, hr, rfl⟩ := List.mem_map.1 hL
        obtain ⟨j, hj, he⟩ := List.getElem_of_mem hr
        have hvn' := hvn.out
        simp only [subsOf] at hvn'
        exact absurd ⟨i, h1, h2, v, h3⟩ (hno.out j r (by omega) (by rw [List.getElem?_eq_getElem hj, he]))

set_option maxRecDepth 100000 in
set_option maxHeartbeats 4000000 in
theorem bg_cat (l : List RE) (hwf : WfR (.cat l)) (ih : ∀ r, r ∈ l → BgC r) : BgC (.cat l) := by
  intro w v fv t A hv hA hl ht
  obtain @⟨_, vA, vc, rv, um, ux, xs, hru, hr0, hm, hx, hs⟩ := hv
  obtain ⟨uA, uc, hrv, -⟩ := id hru
  obtain ⟨un, hun⟩ : ∃ z, Hid (z = (runesOf (.cat l)).length) := ⟨_, Lib.hid rfl⟩
  rw [← hun.out] at hrv
  subst hrv
  have HKd : Hid (KidsR w (.cat l) vA xs) := Lib.hid ⟨hx, hs⟩
  clear hru hr0 hm hx hs
  simp only [opOf]
  obtain ⟨vn, hvn⟩ : ∃ z, Hid (z = (subsOf (.cat l)).length) := ⟨_, Lib.hid rfl⟩
  rw [← hvn.out]
  have hwl : Hid (∀ r, r ∈ l → WfR r) := Lib.hid (by have h := hwf; simp only [WfR] at h; exact WfL_mem h.2)
  have hvl : vn ≤ 1000 := by rw [hvn.out]; have h := hwf; simp only [WfR] at h; exact h.1
  have hsome : Hid (∃ w, Lang (.cat l) w) := Lib.hid (by first | exact lang_some _ hwf | exact lang_some _ (by simp only [WfR]))
  have hA0 := hA
  obtain ⟨b1, o1, c1, cs1, rfl, hcA, hbA, hcellA⟩ := hA0
  rw [hl] at hA ⊢
  have hF1 : Fr (fun _ => False) w (w.alloc (.cells #[.int .i64 18, .slice uA un uc, .int .i64 um, .int .i64 ux, .bool false, .bool false, .slice vA vn vc] 25)) := (Fr.refl _ w).alloc _
  have hB0 : Blk (w.alloc (.cells #[.int .i64 18, .slice uA un uc, .int .i64 um, .int .i64 ux, .bool false, .bool false, .slice vA vn vc] 25)) w.heap.size [.int .i64 18, .slice uA un uc, .int .i64 um, .int .i64 ux, .bool false, .bool false, .slice vA vn vc] 25 := Blk.new w [_, _, _, _, _, _, _] 25
  have hA1 := hA.fr hF1 (fun _ _ _ h => h)
  have hnone := none_spec hA1 (by rw [hl]; omega)
  obtain ⟨x, hx⟩ : ∃ x, A[t.size]? = some x := ⟨_, List.getElem?_eq_getElem (by omega)⟩
  have r0 := hF1.cell (hcellA t.size x hx) (fun h => h)
  have HI := Lib.hid (And.intro hA1 (And.intro hF1 (And.intro hB0 (And.intro hx (And.intro hl (And.intro hcellA hbA))))))
  clear hA hA1 hF1 hB0 hbA hcellA hcA hx hl
  go_enter Tryd.func23, Tryd.ntmps23
  go_wp2_with fail
  refine hnone.mono ?_
  rintro e w2 ⟨rfl, rfl⟩
  clear hnone
  by_cases hall : A.all (!·) = true
  · rw [hall]
    have hH := Lib.hid hall
    clear hall
    go_wp2_with fail
    go_ret
    exact ⟨false, rfl, ⟨fun e => by simp at e, fun e => absurd e (no_begs hH.out)⟩, HI.out.2.1⟩
  have hall' : A.all (!·) = false := by simpa using hall
  rw [hall']
  clear hall hall'
  cases x with
  | true =>
    go_wp2_with fail
    go_ret
    exact ⟨true, rfl, ⟨fun _ => begs_end (show On A (bytesOf t).length by rw [bytes_len]; exact HI.out.2.2.2.1) hsome.out, fun _ => rfl⟩, HI.out.2.1⟩
  | false =>
    have hNn : Hid (¬ On A (bytesOf t).length) := Lib.hid (by rw [bytes_len]; intro h; have h2 := HI.out.2.2.2.1; unfold On at h; rw [h2] at h; simp at h)
    go_wp2_with fail
    generalize hWW : (w.alloc (.cells #[.int .i64 18, .slice uA un uc, .int .i64 um, .int .i64 ux, .bool false, .bool false, .slice vA vn vc] 25)) = W2 at *
    clear hWW r0
    go_loopg [2, 11] (vn + 1) (fun gg s i wr => ∃ (k b o c : Nat) (B : List Bool), k ≤ vn ∧ gg = vn - k + 1 ∧ i = .int .i64 (k : Int) ∧ s = .slice (some ⟨b, o, none⟩) (t.size + 1) c ∧ SetAt wr (.slice (some ⟨b, o, none⟩) (t.size + 1) c) B ∧ Hid (B.length = t.size + 1 ∧ ∀ j, On B j ↔ Ends (CatW ((l.take k).map Lang)) (bytesOf t) (On A) j) ∧ Hid (∀ (i : Nat) (r : RE), i < k → l[i]? = some r → ¬ Begs (Lang r) (bytesOf t) (Ends (CatW ((l.take i).map Lang)) (bytesOf t) (On A))) ∧ Fr (fun _ => False) W2 wr)
    case atStart => exact ⟨0, b1, o1, c1, A, by omega, by omega, rfl, rfl, HI.out.1, Lib.hid ⟨HI.out.2.2.2.2.1, fun j => by
      simp only [List.take_zero, List.map_nil, CatW]
      rw [ends_one]
      exact ⟨fun h => ⟨by rw [bytes_len]; exact on_le (n := t.size) HI.out.2.2.2.2.1 h, h⟩, fun h => h.2⟩⟩, Lib.hid (fun i r h => by omega), Fr.refl _ W2⟩
    case round =>
      obtain ⟨k, b2, o2, c2, B, hk, rfl, rfl, rfl, hB, hBp, hno, hF⟩ := hrel
      have y6 := (HI.out.2.2.1.fr hF (fun h => h)).cell 6 rfl
      by_cases hlt : k < vn
      · have e1 : (k : Int) < (vn : Int) := by omega
        obtain ⟨r', hr'⟩ : ∃ r', l[k]? = some r' := ⟨_, List.getElem?_eq_getElem (by have := hvn.out; simp only [subsOf] at this; omega)⟩
        obtain ⟨b, ob, x0, x1, x2, x3, x4, x5, x6, rfl, hre, z0, z1, z2, z3, z4, z5, z6⟩ := HKd.out.get (HI.out.2.1.trans hF (fun _ _ h => h)) (fun _ _ h => h) (show (subsOf (.cat l))[k]? = some r' from hr')
        have hc := ih r' (List.mem_of_getElem? hr') wr _ _ t B hre hB hBp.out.1 ht
        have HX := Lib.hid (And.intro hr' (And.intro hF (And.intro hB hre)))
        clear hr' hF hre hB
        go_wp2_with fail
        refine hc.mono ?_
        rintro e w3 ⟨z, rfl, hz, hf⟩
        have hbe : Begs (Lang r') (bytesOf t) (On B) ↔ Begs (Lang r') (bytesOf t) (Ends (CatW ((l.take k).map Lang)) (bytesOf t) (On A)) := begs_mono (fun _ => Iff.rfl) (fun i _ => hBp.out.2 i)
        rw [hbe] at hz
        clear hc hbe
        cases z with
        | true =>
          have HZ := Lib.hid (And.intro hz hf)
          clear hz hf z0 z1 z2 z3 z4 z5 z6 y6
          go_wp2_with fail
          go_ret
          refine ⟨true, rfl, ⟨fun _ => ?_, fun _ => rfl⟩, (HI.out.2.1.trans HX.out.2.1 (fun _ _ h => h)).trans HZ.out.2 (fun _ _ h => h)⟩
          simp only [Lang, langs_eq]
          exact (begs_cat l (On A) hwl.out hNn.out).2 ⟨k, r', HX.out.1, HZ.out.1.1 (by trivial)⟩
        | false =>
          have y6' := hf.cell y6 (fun h => h)
          have z0' := hf.cell z0 (fun h => h)
          have z1' := hf.cell z1 (fun h => h)
          have z2' := hf.cell z2 (fun h => h)
          have z3' := hf.cell z3 (fun h => h)
          have z4' := hf.cell z4 (fun h => h)
          have z5' := hf.cell z5 (fun h => h)
          have z6' := hf.cell z6 (fun h => h)
          have hc2 := reached_calls r' (hwl.out r' (List.mem_of_getElem? HX.out.1)) w3 _ _ t B (HX.out.2.2.2.fr hf (fun _ _ _ _ _ h => h)) (HX.out.2.2.1.fr hf (fun _ _ _ h => h)) hBp.out.1 ht
          have HZ := Lib.hid (And.intro hz hf)
          clear hz hf z0 z1 z2 z3 z4 z5 z6 y6
          go_wp2_with fail
          refine hc2.mono ?_
          rintro e w4 ⟨g', c', B', rfl, hB', hl', hE', hf'⟩
          clear hc2 z0' z1' z2' z3' z4' z5' z6' y6'
          rw [hl', hBp.out.1]
          have HY := Lib.hid (And.intro hB' (And.intro hE' (And.intro hf' hl')))
          clear hB' hE' hf' hl'
          go_wp2_with fail
          go_roundg (vn - (k + 1) + 1)
          case measure => omega
          case rel =>
            obtain ⟨hB', hE', hf', hl'⟩ := HY.out
            refine ⟨k + 1, g', 0, c', B', by omega, rfl, by simp, rfl, by have := hB'.set; rw [hl', hBp.out.1] at this; exact this, Lib.hid ⟨by rw [hl', hBp.out.1], fun j => ?_⟩, Lib.hid (fun i r hi hr hb => ?_), (HX.out.2.1.trans HZ.out.2 (fun _ _ h => h)).trans hf' (fun _ _ h => h)⟩
            · rw [hE' j]
              have h1 : Ends (Lang r') (bytesOf t) (On B) j ↔ Ends (Lang r') (bytesOf t) (Ends (CatW ((l.take k).map Lang)) (bytesOf t) (On A)) j := ends_mono (fun _ _ => Iff.rfl) (fun i _ => hBp.out.2 i) j
              rw [h1, ← ends_seq]
              refine ends_mono (fun w _ => ?_) (fun _ _ => Iff.rfl) j
              rw [take_snoc_getElem? HX.out.1, cat_snoc]
            · by_cases e : i = k
              · subst e
                rw [HX.out.1] at hr
                injection hr with hr
                subst hr
                have := HZ.out.1.2 hb
                simp at this
              · exact hno.out i r (by omega) hr hb
      · obtain rfl : k = vn := by omega
        have e1 : ¬ ((k : Int) < (k : Int)) := by omega
        have HX := Lib.hid hF
        clear hF hB
        go_wp2_with fail
        go_ret
        refine ⟨false, rfl, ⟨fun e => by simp at e, fun e => ?_⟩, HI.out.2.1.trans HX.out (fun _ _ h => h)⟩
        simp only [Lang, langs_eq] at e
        obtain ⟨j, r, hj, hb⟩ := (begs_cat l (On A) hwl.out hNn.out).1 e
        have hvn' := hvn.out
        simp only [subsOf] at hvn'
        exact absurd hb (hno.out j r (by have := (List.getElem?_eq_some_iff.1 hj).1; omega) hj)
end Go.Proofs.YtjeklnbfpehbeaaDoor
