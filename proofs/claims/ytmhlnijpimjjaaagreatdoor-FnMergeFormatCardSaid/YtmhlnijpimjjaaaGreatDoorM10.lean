/- A state of many transitions, written: encodeStateMany. Condition: at most 2^40 bytes, transitions lead down. -/
import Derived.Test.YtmhlnijpimjjaaaGreatDoorM09
import Derived.Deep.DeepCutAuto
set_option linter.unusedSimpArgs false
set_option linter.unusedVariables false
namespace Go.Proofs.YtmhlnijpimjjaaaGreatDoor
open Go.RowKit Fmt

/-- The sizes after k transitions. -/
def farK (start : Nat) (l : List (Nat × Nat × Nat)) (k : Nat) : Nat := maxSz ((l.take k).map fun a => delta start a.2.2) 0
def outK (fo : Nat) (l : List (Nat × Nat × Nat)) (k : Nat) : Nat := maxSz ((l.take k).map fun a => a.2.1) (psz fo)
def anyK (fo : Nat) (l : List (Nat × Nat × Nat)) (k : Nat) : Bool := decide (fo ≠ 0) || (l.take k).any fun a => decide (a.2.1 ≠ 0)
theorem maxSz_snoc (l : List Nat) (x m : Nat) : maxSz (l ++ [x]) m = max (maxSz l m) (psz x) := by simp [maxSz]
theorem farK_succ {start : Nat} {l : List (Nat × Nat × Nat)} {k : Nat} {t : Nat × Nat × Nat} (h : l[k]? = some t) : farK start l (k + 1) = max (farK start l k) (psz (delta start t.2.2)) := by
 unfold farK; rw [List.take_add_one, h]; simp [maxSz_snoc]
theorem outK_succ {fo : Nat} {l : List (Nat × Nat × Nat)} {k : Nat} {t : Nat × Nat × Nat} (h : l[k]? = some t) : outK fo l (k + 1) = max (outK fo l k) (psz t.2.1) := by
 unfold outK; rw [List.take_add_one, h]; simp [maxSz_snoc]
theorem anyK_succ {fo : Nat} {l : List (Nat × Nat × Nat)} {k : Nat} {t : Nat × Nat × Nat} (h : l[k]? = some t) : anyK fo l (k + 1) = (anyK fo l k || decide (t.2.1 ≠ 0)) := by
 unfold anyK; rw [List.take_add_one, h]; simp [Bool.or_assoc]
theorem farK_le (start : Nat) (l : List (Nat × Nat × Nat)) (k : Nat) : farK start l k ≤ 8 := maxSz_le _ _ (by omega)
theorem outK_le (fo : Nat) (l : List (Nat × Nat × Nat)) (k : Nat) : outK fo l k ≤ 8 := maxSz_le _ _ (psz_le fo).2

theorem or64 (n : Nat) (h : n < 64) : bits .or .u8 (n : Int) 64 = ((n + 64 : Nat) : Int) :=
 (show ∀ n : Fin 64, bits .or .u8 (n.val : Int) 64 = ((n.val + 64 : Nat) : Int) by decide) ⟨n, h⟩
set_option maxHeartbeats 20000000 in
set_option maxRecDepth 100000 in
theorem many_calls {w : World} {col : Col} {eb wb fb rb bb x : Nat} {bs : List Nat} {nd : Nd} {tv : Value} {nx : Option Nat} (h : En w col eb wb fb rb bb bs) (hn : NodeC w col x nd tv nx) (hw : WfM bs.length nd) (hby : ∀ t, t ∈ nd.arcs → t.1 < 256) (hl : bs.length ≤ 1099511000000) :
  Calls Tryz.prog 155 #[.pointer (some ⟨eb, 0, none⟩), .pointer (some ⟨x, 0, none⟩)] w fun e w' => e = .returned (.tuple #[.int .i64 ((bs.length + (encMany bs.length nd).length - 1 : Nat) : Int), .nilIface]) ∧ ∃ col', Kp (three 1) col w col' w' ∧ En w' col' eb wb fb rb bb (bs ++ encMany bs.length nd) := by
 obtain ⟨A, c, rfl, hnc, hcm⟩ := hn.slc
 have hlen := hw.len
 have hfo := hw.fo
 have b0 := hn.blk.blk.cell 0 rfl
 have b1 := hn.blk.blk.cell 1 rfl
 have b2 := hn.blk.blk.cell 2 rfl
 have y0 := h.eb.blk.cell 0 rfl
 have k1 := h.wr.kwb.blk.cell 1 rfl
 have ew1 : IntKind.u64.wrap (bs.length : Int) = (bs.length : Int) := IntWalk.u64_in _ (by omega)
 have hp0 := psz_calls w nd.fout (by simpa using hfo)
 obtain ⟨S, hS⟩ : ∃ S, Hid (S = bs.length) := ⟨_, Lib.hid rfl⟩
 obtain ⟨n, hnn⟩ : ∃ n, Hid (n = nd.arcs.length) := ⟨_, Lib.hid rfl⟩
 rw [← hS.out] at k1 ew1 hl
 rw [← hnn.out] at b1 hnc hlen
 have HH := Lib.hid (And.intro h (And.intro hn hw))
 have hzf : ((nd.fout : Int) != 0) = decide (nd.fout ≠ 0) := by
  by_cases e : nd.fout = 0
  ·rw [e]; rfl
  ·rw [decide_eq_true e, bne_iff_ne]; omega
 obtain ⟨Y0, hY0⟩ : ∃ Y0, Hid (Y0 = decide (nd.fout ≠ 0)) := ⟨_, Lib.hid rfl⟩
 rw [← hY0.out] at hzf
 clear h hn hw
 go_enter Tryz.func155, Tryz.ntmps155
 go_wp2_with (first | (go_at_call 161; refine (hp0).mono ?_; rintro e w' ⟨rfl, hw'⟩; obtain rfl := hw'.symm; clear hw') | fail)
 go_loopg [7, 8, 9, 48] (n + 1) (fun g f o y i wr => ∃ k : Nat, k ≤ n ∧ g = n - k + 1 ∧ f = .int .i64 (farK S nd.arcs k : Int) ∧ o = .int .i64 (outK nd.fout nd.arcs k : Int) ∧ y = .bool (anyK nd.fout nd.arcs k) ∧ i = .int .i64 (k : Int) ∧ wr = w)
 case atStart => exact ⟨0, by omega, by omega, rfl, rfl, by rw [hY0.out]; simp [anyK], rfl, rfl⟩
 case round => as_aux_lemma =>
  obtain ⟨k, hk, rfl, rfl, rfl, rfl, rfl, rfl⟩ := hrel
  by_cases hlt : k < n
  ·as_aux_lemma =>
    obtain ⟨t, ht⟩ : ∃ t, nd.arcs[k]? = some t := ⟨_, List.getElem?_eq_getElem (by rw [← hnn.out]; exact hlt)⟩
    obtain ⟨g, c', hge, -, -, c0, c1, -, -⟩ := HH.out.2.1.arc ht
    injection hge with hge hge2 hge3
    subst hge hge3
    clear hge2
    rw [Nat.mul_comm 3 k] at c0 c1
    have htm := List.mem_of_getElem? ht
    have ha := HH.out.2.2.adr t htm
    have ho := HH.out.2.2.out t htm
    rw [← hS.out] at ha
    have r1 := farK_succ (start := S) ht
    have r2 := outK_succ (fo := nd.fout) ht
    have r3 := anyK_succ (fo := nd.fout) ht
    have l1 := farK_le S nd.arcs k
    have l2 := outK_le nd.fout nd.arcs k
    have hdc := delta_calls wr S t.2.2 (by omega) (by omega)
    have hdl : delta S t.2.2 < 18446744073709551616 := by unfold delta; split <;> omega
    have hpd := psz_calls wr (delta S t.2.2) hdl
    have hpo := psz_calls wr t.2.1 (by simpa using ho)
    have l3 := (psz_le (delta S t.2.2)).2
    have l4 := (psz_le t.2.1).2
    have ew2 : IntKind.u64.wrap (t.2.2 : Int) = (t.2.2 : Int) := IntWalk.u64_in _ (by omega)
    clear hdl htm ht
    generalize farK S nd.arcs k = F at *
    generalize outK nd.fout nd.arcs k = O at *
    generalize psz (delta S t.2.2) = F1 at *
    generalize delta S t.2.2 = D at *
    generalize psz t.2.1 = O1 at *
    generalize t.2.1 = ov at *
    generalize t.2.2 = av at *
    have e1 : (k : Int) < (n : Int) := by omega
    have HR := Lib.hid (And.intro r1 (And.intro r2 r3))
    clear r1 r2 r3 hp0
    generalize anyK nd.fout nd.arcs k = Y at *
    cases Y with
    | true =>
     go_wp2_with (first | (go_at_call 162; refine (hdc).mono ?_; rintro e w' ⟨rfl, hw'⟩; obtain rfl := hw'.symm; clear hw') | (go_at_call 161; refine (hpd).mono ?_; rintro e w' ⟨rfl, hw'⟩; obtain rfl := hw'.symm; clear hw'; refine Hid.out ?_) | fail)
     refine Lib.hid ?_
     clear hpd hdc
     go_wp2_with (first | (go_at_call 161; refine (hpo).mono ?_; rintro e w' ⟨rfl, hw'⟩; obtain rfl := hw'.symm; clear hw') | fail)
     all_goals
      obtain ⟨r1, r2, r3⟩ := HR.out
      go_roundg (n - (k + 1) + 1)
      case measure => omega
      case rel => exact ⟨k + 1, by omega, rfl, by rw [r1]; congr 2; omega, by rw [r2]; congr 2; omega, by rw [r3]; simp, by simp, rfl⟩
    | false =>
     by_cases hov : ov = 0
     ·subst hov
      go_wp2_with (first | (go_at_call 162; refine (hdc).mono ?_; rintro e w' ⟨rfl, hw'⟩; obtain rfl := hw'.symm; clear hw') | (go_at_call 161; refine (hpd).mono ?_; rintro e w' ⟨rfl, hw'⟩; obtain rfl := hw'.symm; clear hw'; refine Hid.out ?_) | fail)
      refine Lib.hid ?_
      clear hpd hdc
      go_wp2_with (first | (go_at_call 161; refine (hpo).mono ?_; rintro e w' ⟨rfl, hw'⟩; obtain rfl := hw'.symm; clear hw') | fail)
      all_goals
       obtain ⟨r1, r2, r3⟩ := HR.out
       go_roundg (n - (k + 1) + 1)
       case measure => omega
       case rel => exact ⟨k + 1, by omega, rfl, by rw [r1]; congr 2; omega, by rw [r2]; congr 2; omega, by rw [r3]; simp, by simp, rfl⟩
     ·have e2 : ¬ ((ov : Int) = 0) := by omega
      go_wp2_with (first | (go_at_call 162; refine (hdc).mono ?_; rintro e w' ⟨rfl, hw'⟩; obtain rfl := hw'.symm; clear hw') | (go_at_call 161; refine (hpd).mono ?_; rintro e w' ⟨rfl, hw'⟩; obtain rfl := hw'.symm; clear hw'; refine Hid.out ?_) | fail)
      refine Lib.hid ?_
      clear hpd hdc
      go_wp2_with (first | (go_at_call 161; refine (hpo).mono ?_; rintro e w' ⟨rfl, hw'⟩; obtain rfl := hw'.symm; clear hw') | fail)
      all_goals
       obtain ⟨r1, r2, r3⟩ := HR.out
       go_roundg (n - (k + 1) + 1)
       case measure => omega
       case rel => exact ⟨k + 1, by omega, rfl, by rw [r1]; congr 2; omega, by rw [r2]; congr 2; omega, by rw [r3]; simp [hov], by simp, rfl⟩
  ·obtain rfl : k = n := by omega
   have l1 := farK_le S nd.arcs k
   have l2 := outK_le nd.fout nd.arcs k
   obtain ⟨F, hF⟩ : ∃ F, Hid (farK S nd.arcs k = F) := ⟨_, Lib.hid rfl⟩
   obtain ⟨O, hO⟩ : ∃ O, Hid (outK nd.fout nd.arcs k = O) := ⟨_, Lib.hid rfl⟩
   obtain ⟨Y, hY⟩ : ∃ Y, Hid (anyK nd.fout nd.arcs k = Y) := ⟨_, Lib.hid rfl⟩
   rw [hF.out] at l1 ⊢
   rw [hO.out] at l2 ⊢
   rw [hY.out]
   clear hp0 hzf
   obtain ⟨U, hU⟩ : ∃ U, Hid (U = if Y then O else 0) := ⟨_, Lib.hid rfl⟩
   have hUl : U ≤ 8 := by rw [hU.out]; split <;> omega
   go_upto_if 95 with fail
   go_cut [8] (fun u wx => u = .int .i64 (U : Int) ∧ wr = wx)
   case first => as_aux_lemma =>
    cases Y with
    | true =>
     go_wp2_with fail
     go_meet
     exact ⟨by rw [hU.out]; rfl, rfl⟩
    | false =>
     go_wp2_with fail
     go_meet
     exact ⟨by rw [hU.out]; rfl, rfl⟩
   case rest => as_aux_lemma =>
   obtain ⟨rfl, rfl⟩ := hcut
   have hYb := hY
   clear hY0
   -- the final state's output and the transitions' outputs
   obtain ⟨X1, hX1⟩ : ∃ X1, Hid (X1 = (if Y && nd.fin then pk nd.fout U else []) ++ (if Y then nd.arcs.reverse.flatMap (fun t => pk t.2.1 U) else [])) := ⟨_, Lib.hid rfl⟩
   go_upto_if 96 with fail
   go_cut [] (fun wx => ∃ col', Kp (three 1) col wr col' wx ∧ En wx col' eb wb fb rb bb (bs ++ X1) ∧ NodeC wx col' x nd (.slice A nd.arcs.length c) nx)
   case first => as_aux_lemma =>
    cases Y with
    | false =>
     go_wp2_with fail
     go_meet
     exact ⟨col, Kp.refl _ _ _, by rw [hX1.out]; simpa using HH.out.1, HH.out.2.1⟩
    | true =>
     obtain ⟨fn, hfn⟩ : ∃ fn, Hid (nd.fin = fn) := ⟨_, Lib.hid rfl⟩
     rw [hfn.out] at hX1 b2
     cases fn with
     | false => as_aux_lemma =>
      have HE1 := Lib.hid (show Kp (three 1) col wr col wr ∧ En wr col eb wb fb rb bb (bs ++ []) ∧ NodeC wr col x nd (.slice A nd.arcs.length c) nx from ⟨Kp.refl _ _ _, by rw [List.append_nil]; exact HH.out.1, HH.out.2.1⟩)
      have y1 := HE1.out.2.1.eb.blk.cell 0 rfl
      have bb1 := HE1.out.2.2.blk.blk.cell 1 rfl
      rw [← hnn.out] at bb1
      have e1 : IntKind.i64.wrap ((k : Int) - 1) = (k : Int) - 1 := IntWalk.i64_in _ (by omega)
      go_wp2_with fail
      go_loopg [15] (k + 1) (fun g i wx => ∃ (r : Nat) (q : Int), r ≤ k ∧ g = r + 1 ∧ i = .int .i64 q ∧ q = (r : Int) - 1 ∧ ∃ col2, Kp (three 1) col wr col2 wx ∧ En wx col2 eb wb fb rb bb (bs ++ [] ++ (nd.arcs.reverse.take (k - r)).flatMap (fun t => pk t.2.1 U)) ∧ NodeC wx col2 x nd (.slice A nd.arcs.length c) nx)
      case atStart => exact ⟨k, (k : Int) - 1, by omega, rfl, rfl, rfl, _, HE1.out.1, by rw [Nat.sub_self]; simpa using HE1.out.2.1, HE1.out.2.2⟩
      case round =>
       obtain ⟨r, q, hr, rfl, rfl, hq, col2, hK2, hE2, hN2⟩ := hrel
       clear y1 bb1
       rcases r with _ | j
       ·obtain rfl : q = -1 := by omega
        clear hq
        have e : nd.arcs.reverse.take (k - 0) = nd.arcs.reverse := List.take_of_length_le (by rw [List.length_reverse, ← hnn.out]; omega)
        rw [e] at hE2
        go_wp2_with fail
        go_meet
        refine ⟨col2, hK2, ?_, hN2⟩
        rw [hX1.out]
        simpa using hE2
       ·obtain rfl : q = (j : Int) := by omega
        clear hq
        have hjk : j < k := by omega
        have e2 : IntKind.i64.wrap ((j : Int) - 1) = (j : Int) - 1 := IntWalk.i64_in _ (by omega)
        obtain ⟨t, ht⟩ : ∃ t, nd.arcs[j]? = some t := ⟨_, List.getElem?_eq_getElem (by rw [← hnn.out]; omega)⟩
        have hrev : nd.arcs.reverse[k - (j + 1)]? = some t := by
         have := rev_get ht
         rw [← hnn.out] at this
         rw [show k - (j + 1) = k - 1 - j by omega]; exact this
        have htm := List.mem_of_getElem? ht
        obtain ⟨g, c', hge, -, -, ca0, ca1, ca2, hg5⟩ := hN2.arc ht
        injection hge with hge hge2 hge3
        subst hge hge3
        clear hge2
        rw [Nat.mul_comm 3 j] at ca0 ca1 ca2
        have y1 := hE2.eb.blk.cell 0 rfl
        have bb1 := hN2.blk.blk.cell 1 rfl
        rw [← hnn.out] at bb1
        have h2 : (nd.arcs.reverse.take (k - (j + 1))).length ≤ 256 := by rw [List.length_take]; omega
        have h4 := hS.out
        have ho := HH.out.2.2.out t htm
        have hw1 := wpack_calls hE2.wr.drew t.2.1 U (by simpa using ho) hUl (by
         simp only [List.length_append]
         have h1 := flat_len (nd.arcs.reverse.take (k - (j + 1))) (fun t : Nat × Nat × Nat => pk t.2.1 U) 8 (fun a => by rw [pk_len]; exact hUl)
         have h3 : ([] : List Nat).length = 0 := rfl
         omega)
        rw [List.append_assoc (bs ++ []), show (nd.arcs.reverse.take (k - (j + 1))).flatMap (fun t : Nat × Nat × Nat => pk t.2.1 U) ++ pk t.2.1 U = (nd.arcs.reverse.take (k - j)).flatMap (fun t : Nat × Nat × Nat => pk t.2.1 U) by
         rw [show k - j = k - (j + 1) + 1 by omega, List.take_add_one, hrev]; simp] at hw1
        have HQ := Lib.hid (And.intro hK2 (And.intro hE2 hN2))
        clear htm
        generalize t.2.1 = ov at *
        clear hK2 hE2 hN2 hrev ht ca1 ca2 h4 h2
        go_wp2_with fail
        refine wp_region_seqV (fun W => W.cell? ⟨eb, 0, none⟩ = some (.pointer (some ⟨wb, 0, none⟩)) ∧ W.cell? ⟨x, 1, none⟩ = some (.slice (some ⟨g, 0, none⟩) k c) ∧ W.cell? ⟨g, j * 3, none⟩ = some (.int .u64 (ov : Int))) (fun i => decide (i ≠ 13)) (fun i => ![3, 7, 11].contains i && decide (i ≠ 13)) (fun i => false) [0, 1, 2, 3, 4, 5, 6, 7, 8, 9, 10, 11, 12, 13, 14] (by kernel_rfl) (by kernel_rfl) (fun c a d v w h => by cases d <;> exact h) ⟨y1, bb1, ca0⟩ ?_
        iterate 3 (apply seqV_pure (ho := rfl) (hr := rfl) (hg := rfl); (intro w'; go_simp; rfl))
        (apply seqV_read (ho := rfl) (hr := rfl) (hp := rfl) (hg := rfl); (rintro w' ⟨q0, q1, q2⟩; go_simp; rfl))
        go_simp
        iterate 3 (apply seqV_pure (ho := rfl) (hr := rfl) (hg := rfl); (intro w'; go_simp; rfl))
        (apply seqV_read (ho := rfl) (hr := rfl) (hp := rfl) (hg := rfl); (rintro w' ⟨q0, q1, q2⟩; go_simp; rfl))
        go_simp
        iterate 3 (apply seqV_pure (ho := rfl) (hr := rfl) (hg := rfl); (intro w'; go_simp; rfl))
        (apply seqV_read (ho := rfl) (hr := rfl) (hp := rfl) (hg := rfl); (rintro w' ⟨q0, q1, q2⟩; go_simp; rfl))
        go_simp
        iterate 1 (apply seqV_pure (ho := rfl) (hr := rfl) (hg := rfl); (intro w'; go_simp; rfl))
        refine seqV_do rfl rfl fun K hK => ?_
        go_simp
        refine hw1.mono ?_
        rintro e w2 ⟨rfl, col3, hk3, hw3⟩
        have hE3 := HQ.out.2.1.drew.next hk3 hw3
        have hN3 := HQ.out.2.2.drew.kp hk3 (three_not (by omega)) (three_not (by omega))
        have k2 := hk3.fr.cell ca0 (by rw [hg5]; exact three_not (by omega))
        have k3 := hN3.blk.blk.cell 1 rfl
        rw [← hnn.out] at k3
        refine hK _ _ (fun _ => ⟨hE3.eb.blk.cell 0 rfl, k3, k2⟩) ?_
        have HZ := Lib.hid (And.intro (HQ.out.1.trans ((Kp.refl (three 1) col2 _).drew.trans hk3)) (And.intro hE3 hN3))
        clear hK K hE3 hN3 hk3 hw3 k2 k3 hw1 HQ ca0 bb1 y1
        go_simp
        iterate 1 (apply seqV_pure (ho := rfl) (hr := rfl) (hg := rfl); (intro w'; go_simp; rfl))
        unfold seqV
        go_simp
        go_wp2_with fail
        go_roundg (j + 1)
        case measure => omega
        case rel => exact ⟨j, (j : Int) - 1, by omega, rfl, rfl, rfl, col3, HZ.out⟩
     | true => as_aux_lemma =>
      have hw1 := wpack_calls HH.out.1.wr.drew nd.fout U (by simpa using hfo) hUl (by have := hS.out; omega)
      go_wp2_with fail
      refine wp_region_seqV (fun W => W.cell? ⟨eb, 0, none⟩ = some (.pointer (some ⟨wb, 0, none⟩)) ∧ W.cell? ⟨x, 0, none⟩ = some (.int .u64 (nd.fout : Int))) (fun i => decide (i ≠ 9)) (fun i => ![3, 7].contains i && decide (i ≠ 9)) (fun i => false) [0, 1, 2, 3, 4, 5, 6, 7, 8, 9, 10] (by kernel_rfl) (by kernel_rfl) (fun c a d v w h => by cases d <;> exact h) ⟨y0, b0⟩ ?_
      iterate 3 (apply seqV_pure (ho := rfl) (hr := rfl) (hg := rfl); (intro w'; go_simp; rfl))
      (apply seqV_read (ho := rfl) (hr := rfl) (hp := rfl) (hg := rfl); (rintro w' ⟨q0, q1⟩; go_simp; rfl))
      go_simp
      iterate 3 (apply seqV_pure (ho := rfl) (hr := rfl) (hg := rfl); (intro w'; go_simp; rfl))
      (apply seqV_read (ho := rfl) (hr := rfl) (hp := rfl) (hg := rfl); (rintro w' ⟨q0, q1⟩; go_simp; rfl))
      go_simp
      iterate 1 (apply seqV_pure (ho := rfl) (hr := rfl) (hg := rfl); (intro w'; go_simp; rfl))
      refine seqV_do rfl rfl fun K hK => ?_
      go_simp
      refine hw1.mono ?_
      rintro e w1 ⟨rfl, col1, hk1, hw1'⟩
      have hE1 := HH.out.1.drew.next hk1 hw1'
      have hN1 := HH.out.2.1.drew.kp hk1 (three_not (by omega)) (three_not (by omega))
      refine hK _ _ (fun _ => ⟨hE1.eb.blk.cell 0 rfl, hN1.blk.blk.cell 0 rfl⟩) ?_
      have HE1 := Lib.hid (And.intro ((Kp.refl (three 1) col _).drew.trans hk1) (And.intro hE1 hN1))
      clear hK K hE1 hN1 hk1 hw1' hw1 b0 b1 b2 y0 k1
      go_simp
      iterate 1 (apply seqV_pure (ho := rfl) (hr := rfl) (hg := rfl); (intro w'; go_simp; rfl))
      unfold seqV
      go_simp
      have y1 := HE1.out.2.1.eb.blk.cell 0 rfl
      have bb1 := HE1.out.2.2.blk.blk.cell 1 rfl
      rw [← hnn.out] at bb1
      have e1 : IntKind.i64.wrap ((k : Int) - 1) = (k : Int) - 1 := IntWalk.i64_in _ (by omega)
      go_wp2_with fail
      go_loopg [15] (k + 1) (fun g i wx => ∃ (r : Nat) (q : Int), r ≤ k ∧ g = r + 1 ∧ i = .int .i64 q ∧ q = (r : Int) - 1 ∧ ∃ col2, Kp (three 1) col wr col2 wx ∧ En wx col2 eb wb fb rb bb (bs ++ pk nd.fout U ++ (nd.arcs.reverse.take (k - r)).flatMap (fun t => pk t.2.1 U)) ∧ NodeC wx col2 x nd (.slice A nd.arcs.length c) nx)
      case atStart => exact ⟨k, (k : Int) - 1, by omega, rfl, rfl, rfl, _, HE1.out.1, by rw [Nat.sub_self]; simpa using HE1.out.2.1, HE1.out.2.2⟩
      case round =>
       obtain ⟨r, q, hr, rfl, rfl, hq, col2, hK2, hE2, hN2⟩ := hrel
       clear y1 bb1
       rcases r with _ | j
       ·obtain rfl : q = -1 := by omega
        clear hq
        have e : nd.arcs.reverse.take (k - 0) = nd.arcs.reverse := List.take_of_length_le (by rw [List.length_reverse, ← hnn.out]; omega)
        rw [e] at hE2
        go_wp2_with fail
        go_meet
        refine ⟨col2, hK2, ?_, hN2⟩
        rw [hX1.out]
        simpa using hE2
       ·obtain rfl : q = (j : Int) := by omega
        clear hq
        have hjk : j < k := by omega
        have e2 : IntKind.i64.wrap ((j : Int) - 1) = (j : Int) - 1 := IntWalk.i64_in _ (by omega)
        obtain ⟨t, ht⟩ : ∃ t, nd.arcs[j]? = some t := ⟨_, List.getElem?_eq_getElem (by rw [← hnn.out]; omega)⟩
        have hrev : nd.arcs.reverse[k - (j + 1)]? = some t := by
         have := rev_get ht
         rw [← hnn.out] at this
         rw [show k - (j + 1) = k - 1 - j by omega]; exact this
        have htm := List.mem_of_getElem? ht
        obtain ⟨g, c', hge, -, -, ca0, ca1, ca2, hg5⟩ := hN2.arc ht
        injection hge with hge hge2 hge3
        subst hge hge3
        clear hge2
        rw [Nat.mul_comm 3 j] at ca0 ca1 ca2
        have y1 := hE2.eb.blk.cell 0 rfl
        have bb1 := hN2.blk.blk.cell 1 rfl
        rw [← hnn.out] at bb1
        have h2 : (nd.arcs.reverse.take (k - (j + 1))).length ≤ 256 := by rw [List.length_take]; omega
        have h4 := hS.out
        have ho := HH.out.2.2.out t htm
        have hw1 := wpack_calls hE2.wr.drew t.2.1 U (by simpa using ho) hUl (by
         simp only [List.length_append]
         have h1 := flat_len (nd.arcs.reverse.take (k - (j + 1))) (fun t : Nat × Nat × Nat => pk t.2.1 U) 8 (fun a => by rw [pk_len]; exact hUl)
         have h3 : (pk nd.fout U).length ≤ 8 := by rw [pk_len]; exact hUl
         omega)
        rw [List.append_assoc (bs ++ pk nd.fout U), show (nd.arcs.reverse.take (k - (j + 1))).flatMap (fun t : Nat × Nat × Nat => pk t.2.1 U) ++ pk t.2.1 U = (nd.arcs.reverse.take (k - j)).flatMap (fun t : Nat × Nat × Nat => pk t.2.1 U) by
         rw [show k - j = k - (j + 1) + 1 by omega, List.take_add_one, hrev]; simp] at hw1
        have HQ := Lib.hid (And.intro hK2 (And.intro hE2 hN2))
        clear htm
        generalize t.2.1 = ov at *
        clear hK2 hE2 hN2 hrev ht ca1 ca2 h4 h2
        go_wp2_with fail
        refine wp_region_seqV (fun W => W.cell? ⟨eb, 0, none⟩ = some (.pointer (some ⟨wb, 0, none⟩)) ∧ W.cell? ⟨x, 1, none⟩ = some (.slice (some ⟨g, 0, none⟩) k c) ∧ W.cell? ⟨g, j * 3, none⟩ = some (.int .u64 (ov : Int))) (fun i => decide (i ≠ 13)) (fun i => ![3, 7, 11].contains i && decide (i ≠ 13)) (fun i => false) [0, 1, 2, 3, 4, 5, 6, 7, 8, 9, 10, 11, 12, 13, 14] (by kernel_rfl) (by kernel_rfl) (fun c a d v w h => by cases d <;> exact h) ⟨y1, bb1, ca0⟩ ?_
        iterate 3 (apply seqV_pure (ho := rfl) (hr := rfl) (hg := rfl); (intro w'; go_simp; rfl))
        (apply seqV_read (ho := rfl) (hr := rfl) (hp := rfl) (hg := rfl); (rintro w' ⟨q0, q1, q2⟩; go_simp; rfl))
        go_simp
        iterate 3 (apply seqV_pure (ho := rfl) (hr := rfl) (hg := rfl); (intro w'; go_simp; rfl))
        (apply seqV_read (ho := rfl) (hr := rfl) (hp := rfl) (hg := rfl); (rintro w' ⟨q0, q1, q2⟩; go_simp; rfl))
        go_simp
        iterate 3 (apply seqV_pure (ho := rfl) (hr := rfl) (hg := rfl); (intro w'; go_simp; rfl))
        (apply seqV_read (ho := rfl) (hr := rfl) (hp := rfl) (hg := rfl); (rintro w' ⟨q0, q1, q2⟩; go_simp; rfl))
        go_simp
        iterate 1 (apply seqV_pure (ho := rfl) (hr := rfl) (hg := rfl); (intro w'; go_simp; rfl))
        refine seqV_do rfl rfl fun K hK => ?_
        go_simp
        refine hw1.mono ?_
        rintro e w2 ⟨rfl, col3, hk3, hw3⟩
        have hE3 := HQ.out.2.1.drew.next hk3 hw3
        have hN3 := HQ.out.2.2.drew.kp hk3 (three_not (by omega)) (three_not (by omega))
        have k2 := hk3.fr.cell ca0 (by rw [hg5]; exact three_not (by omega))
        have k3 := hN3.blk.blk.cell 1 rfl
        rw [← hnn.out] at k3
        refine hK _ _ (fun _ => ⟨hE3.eb.blk.cell 0 rfl, k3, k2⟩) ?_
        have HZ := Lib.hid (And.intro (HQ.out.1.trans ((Kp.refl (three 1) col2 _).drew.trans hk3)) (And.intro hE3 hN3))
        clear hK K hE3 hN3 hk3 hw3 k2 k3 hw1 HQ ca0 bb1 y1
        go_simp
        iterate 1 (apply seqV_pure (ho := rfl) (hr := rfl) (hg := rfl); (intro w'; go_simp; rfl))
        unfold seqV
        go_simp
        go_wp2_with fail
        go_roundg (j + 1)
        case measure => omega
        case rel => exact ⟨j, (j : Int) - 1, by omega, rfl, rfl, rfl, col3, HZ.out⟩
   case rest => as_aux_lemma =>
   obtain ⟨col1, hcut⟩ := hcut
   obtain ⟨w00, hw00⟩ : ∃ w00, Hid (w00 = wr) := ⟨_, Lib.hid rfl⟩
   rw [← hw00.out] at hcut
   have HE1 := Lib.hid hcut
   clear hcut b0 b1 b2 y0 k1 hYb
   have hXl : X1.length ≤ 2056 := by
    rw [hX1.out]
    have h1 := flat_len nd.arcs.reverse (fun t : Nat × Nat × Nat => pk t.2.1 U) 8 (fun a => by rw [pk_len]; exact hUl)
    rw [List.length_reverse, ← hnn.out] at h1
    have a1 : (if Y && nd.fin then pk nd.fout U else []).length ≤ 8 := by
     split
     ·rw [pk_len]; exact hUl
     ·simp
    have a2 : (if Y then nd.arcs.reverse.flatMap (fun t => pk t.2.1 U) else []).length ≤ 2048 := by
     split
     ·omega
     ·simp
    rw [List.length_append]; omega
   have hFl := l1
   have y1 := HE1.out.2.1.eb.blk.cell 0 rfl
   have bb1 := HE1.out.2.2.blk.blk.cell 1 rfl
   rw [← hnn.out] at bb1
   have e1 : IntKind.i64.wrap ((k : Int) - 1) = (k : Int) - 1 := IntWalk.i64_in _ (by omega)
   go_wp2_with fail
   go_loopg [17] (k + 1) (fun g i wx => ∃ (r : Nat) (q : Int), r ≤ k ∧ g = r + 1 ∧ i = .int .i64 q ∧ q = (r : Int) - 1 ∧ ∃ col2, Kp (three 1) col w00 col2 wx ∧ En wx col2 eb wb fb rb bb (bs ++ X1 ++ (nd.arcs.reverse.take (k - r)).flatMap (fun t => pk (delta S t.2.2) F)) ∧ NodeC wx col2 x nd (.slice A nd.arcs.length c) nx)
   case atStart => exact ⟨k, (k : Int) - 1, by omega, rfl, rfl, rfl, _, HE1.out.1, by rw [Nat.sub_self]; simpa using HE1.out.2.1, HE1.out.2.2⟩
   case round =>
    obtain ⟨r, q, hr, rfl, rfl, hq, col2, hK2, hE2, hN2⟩ := hrel
    clear y1 bb1 HE1
    rcases r with _ | j
    ·as_aux_lemma =>
     obtain rfl : q = -1 := by omega
     clear hq
     have e : nd.arcs.reverse.take (k - 0) = nd.arcs.reverse := List.take_of_length_le (by rw [List.length_reverse, ← hnn.out]; omega)
     rw [e] at hE2
     have HE1 := Lib.hid (And.intro hK2 (And.intro hE2 hN2))
     clear hK2 hE2 hN2 e e1
     obtain ⟨X2, hX2⟩ : ∃ X2, Hid (X2 = X1 ++ nd.arcs.reverse.flatMap (fun t => pk (delta S t.2.2) F)) := ⟨_, Lib.hid rfl⟩
     rw [List.append_assoc, ← hX2.out] at HE1
     have hX2l : X2.length ≤ 4104 := by
      have h3 := flat_len nd.arcs.reverse (fun t : Nat × Nat × Nat => pk (delta S t.2.2) F) 8 (fun a => by rw [pk_len]; exact hFl)
      rw [List.length_reverse, ← hnn.out] at h3
      rw [hX2.out, List.length_append]; omega
     have y1 := HE1.out.2.1.eb.blk.cell 0 rfl
     have bb1 := HE1.out.2.2.blk.blk.cell 1 rfl
     rw [← hnn.out] at bb1
     have e1 : IntKind.i64.wrap ((k : Int) - 1) = (k : Int) - 1 := IntWalk.i64_in _ (by omega)
     go_wp2_with fail
     go_loopg [20] (k + 1) (fun g i wx => ∃ (r : Nat) (q : Int), r ≤ k ∧ g = r + 1 ∧ i = .int .i64 q ∧ q = (r : Int) - 1 ∧ ∃ col2, Kp (three 1) col w00 col2 wx ∧ En wx col2 eb wb fb rb bb (bs ++ X2 ++ (nd.arcs.reverse.take (k - r)).flatMap (fun t => [t.1])) ∧ NodeC wx col2 x nd (.slice A nd.arcs.length c) nx)
     case atStart => exact ⟨k, (k : Int) - 1, by omega, rfl, rfl, rfl, _, HE1.out.1, by rw [Nat.sub_self]; simpa using HE1.out.2.1, HE1.out.2.2⟩
     case round =>
      obtain ⟨r, q, hr, rfl, rfl, hq, col2, hK2, hE2, hN2⟩ := hrel
      clear y1 bb1 HE1
      rcases r with _ | j
      ·as_aux_lemma =>
       obtain rfl : q = -1 := by omega
       clear hq
       have e : nd.arcs.reverse.take (k - 0) = nd.arcs.reverse := List.take_of_length_le (by rw [List.length_reverse, ← hnn.out]; omega)
       rw [e] at hE2
       have HE1 := Lib.hid (And.intro hK2 (And.intro hE2 hN2))
       clear hK2 hE2 hN2 e e1
       obtain ⟨X3, hX3⟩ : ∃ X3, Hid (X3 = X2 ++ nd.arcs.reverse.flatMap (fun t => [t.1])) := ⟨_, Lib.hid rfl⟩
       rw [List.append_assoc, ← hX3.out] at HE1
       have hX3l : X3.length ≤ 6200 := by
        have h3 := flat_len nd.arcs.reverse (fun t : Nat × Nat × Nat => [t.1]) 8 (fun a => by simp)
        rw [List.length_reverse, ← hnn.out] at h3
        rw [hX3.out, List.length_append]; omega
       obtain ⟨q, hq⟩ : ∃ q, Hid (F * 16 + U = q) := ⟨_, Lib.hid rfl⟩
       have hpk := fun w => pks_calls w F U hFl hUl
       have hw1 := vwbyte_calls HE1.out.2.1.wr (by have := hS.out; rw [List.length_append]; omega) q
       rw [hq.out] at hpk
       have y1 := HE1.out.2.1.eb.blk.cell 0 rfl
       go_wp2_with (first | (go_at_call 165; refine (hpk _).mono ?_; rintro e w' ⟨rfl, hw'⟩; obtain rfl := hw'.symm; clear hw') | (go_at_call 164; refine hw1.mono ?_; rintro e w2 ⟨rfl, col3, hk3, hw3⟩; refine Hid.out ?_) | fail)
       refine Lib.hid ?_
       have hE3 := HE1.out.2.1.next hk3 hw3
       have hN3 := HE1.out.2.2.kp hk3 (three_not (by omega)) (three_not (by omega))
       obtain ⟨X4, hX4⟩ : ∃ X4, Hid (X4 = X3 ++ [q]) := ⟨_, Lib.hid rfl⟩
       rw [List.append_assoc, ← hX4.out] at hE3
       have hX4l : X4.length ≤ 6201 := by rw [hX4.out, List.length_append]; simpa using hX3l
       have HE3 := Lib.hid (And.intro (HE1.out.1.trans hk3) (And.intro hE3 hN3))
       clear hw1 hpk y1 hk3 hw3 hE3 hN3 HE1
       generalize w2 = wz at *
       have bb1 := HE3.out.2.2.blk.blk.cell 1 rfl
       rw [← hnn.out] at bb1
       obtain ⟨N0, hN0⟩ : ∃ N0, Hid ((if 63 < k then 0 else k) = N0) := ⟨_, Lib.hid rfl⟩
       have hnt := fun w => ntr_calls w k hlen
       rw [hN0.out] at hnt
       obtain ⟨CB, hCB⟩ : ∃ CB, Hid (CB = (if k = 256 then [1] else if k = 0 ∨ 63 < k then [k] else [])) := ⟨_, Lib.hid rfl⟩
       go_upto_if 217 with (first | (go_at_call 166; refine (hnt _).mono ?_; rintro e w' ⟨rfl, hw'⟩; obtain rfl := hw'.symm; clear hw') | fail)
       go_cut [] (fun wx => ∃ col2, Kp (three 1) col w00 col2 wx ∧ En wx col2 eb wb fb rb bb (bs ++ X4 ++ CB) ∧ NodeC wx col2 x nd (.slice A nd.arcs.length c) nx)
       case first => as_aux_lemma =>
        obtain ⟨hK4, hE4, hN4⟩ := HE3.out
        have y1 := hE4.eb.blk.cell 0 rfl
        by_cases c256 : k = 256
        ·as_aux_lemma =>
         have e1 : N0 = 0 := by rw [← hN0.out, if_pos (by omega)]
         have e2 : CB = [1] := by rw [hCB.out, if_pos c256]
         subst e1 e2 c256
         have hwc := vwbyte_calls hE4.wr (by have := hS.out; rw [List.length_append]; omega) 1
         have HQ := Lib.hid (And.intro hK4 (And.intro hE4 hN4))
         clear hK4 hE4 hN4
         go_wp2_with fail
         refine hwc.mono ?_
         rintro e w2 ⟨rfl, col3, hk3, hw3⟩
         have hE5 := HQ.out.2.1.next hk3 hw3
         have hN5 := HQ.out.2.2.kp hk3 (three_not (by omega)) (three_not (by omega))
         have HZ := Lib.hid (And.intro (HQ.out.1.trans hk3) (And.intro hE5 hN5))
         clear hE5 hN5 hk3 hw3 hwc HQ
         go_wp2_with fail
         go_meet
         exact ⟨col3, HZ.out⟩
        ·by_cases c0 : k = 0 ∨ 63 < k
         ·as_aux_lemma =>
          have e1 : N0 = 0 := by rw [← hN0.out]; split <;> omega
          have e2 : CB = [k] := by rw [hCB.out, if_neg c256, if_pos c0]
          subst e1 e2
          have e3 : ¬ ((k : Int) = 256) := by omega
          have e4 : IntKind.u8.wrap (k : Int) = (k : Int) := u8_wrap (by omega)
          have hwc := vwbyte_calls hE4.wr.drew (by have := hS.out; rw [List.length_append]; omega) k
          have HQ := Lib.hid (And.intro hK4 (And.intro hE4 hN4))
          clear hK4 hE4 hN4
          go_wp2_with fail
          refine wp_region_seqV (fun W => W.cell? ⟨eb, 0, none⟩ = some (.pointer (some ⟨wb, 0, none⟩)) ∧ W.cell? ⟨x, 1, none⟩ = some (.slice A k c)) (fun i => decide (i ≠ 10)) (fun i => ![3, 7].contains i && decide (i ≠ 10)) (fun i => false) [0, 1, 2, 3, 4, 5, 6, 7, 8, 9, 10, 11] (by kernel_rfl) (by kernel_rfl) (fun c a d v w h => by cases d <;> exact h) ⟨y1, bb1⟩ ?_
          iterate 3 (apply seqV_pure (ho := rfl) (hr := rfl) (hg := rfl); (intro w'; go_simp; rfl))
          (apply seqV_read (ho := rfl) (hr := rfl) (hp := rfl) (hg := rfl); (rintro w' ⟨q0, q1⟩; go_simp; rfl))
          go_simp
          iterate 3 (apply seqV_pure (ho := rfl) (hr := rfl) (hg := rfl); (intro w'; go_simp; rfl))
          (apply seqV_read (ho := rfl) (hr := rfl) (hp := rfl) (hg := rfl); (rintro w' ⟨q0, q1⟩; go_simp; rfl))
          go_simp
          iterate 2 (apply seqV_pure (ho := rfl) (hr := rfl) (hg := rfl); (intro w'; go_simp; rfl))
          refine seqV_do rfl rfl fun K hK => ?_
          go_simp
          refine hwc.mono ?_
          rintro e w2 ⟨rfl, col3, hk3, hw3⟩
          have hE5 := HQ.out.2.1.drew.next hk3 hw3
          have hN5 := HQ.out.2.2.drew.kp hk3 (three_not (by omega)) (three_not (by omega))
          have k3 := hN5.blk.blk.cell 1 rfl
          rw [← hnn.out] at k3
          refine hK _ _ (fun _ => ⟨hE5.eb.blk.cell 0 rfl, k3⟩) ?_
          have HZ := Lib.hid (And.intro (HQ.out.1.trans ((Kp.refl (three 1) _ _).drew.trans hk3)) (And.intro hE5 hN5))
          clear hK K hE5 hN5 hk3 hw3 hwc HQ k3 y1 bb1
          go_simp
          iterate 1 (apply seqV_pure (ho := rfl) (hr := rfl) (hg := rfl); (intro w'; go_simp; rfl))
          unfold seqV
          go_simp
          go_wp2_with fail
          go_meet
          exact ⟨col3, HZ.out⟩
         ·as_aux_lemma =>
          have e1 : N0 = k := by rw [← hN0.out]; split <;> omega
          have e2 : CB = [] := by rw [hCB.out, if_neg c256, if_neg c0]
          have e3 : ¬ ((N0 : Int) = 0) := by omega
          clear e1
          clear hK4 hE4 hN4
          go_wp2_with fail
          go_meet
          rw [e2, List.append_nil]
          exact ⟨_, HE3.out⟩
       case rest => as_aux_lemma =>
       obtain ⟨col4, hcut⟩ := hcut
       have HE4 := Lib.hid hcut
       clear hcut HE3 bb1
       have hCBl : CB.length ≤ 1 := by rw [hCB.out]; split; · simp
                                       split <;> simp
       obtain ⟨LB, hLB⟩ : ∃ LB, Hid (LB = N0 + if nd.fin then 64 else 0) := ⟨_, Lib.hid rfl⟩
       have bb2 := HE4.out.2.2.blk.blk.cell 2 rfl
       have hN63 : N0 < 64 := by rw [← hN0.out]; split <;> omega
       go_upto_if 249 with fail
       go_cut [24] (fun u wx => u = .int .u8 (LB : Int) ∧ wc = wx)
       case first => as_aux_lemma =>
        cases hfin : nd.fin with
        | true =>
         have e1 : LB = N0 + 64 := by rw [hLB.out, hfin]; rfl
         have e2 : bits .or .u8 (N0 : Int) 64 = (LB : Int) := by rw [or64 N0 hN63, e1]
         rw [hfin] at bb2
         clear e1
         go_wp2_with fail
         go_meet
         exact ⟨rfl, rfl⟩
        | false =>
         have e1 : LB = N0 := by rw [hLB.out, hfin]; rfl
         rw [hfin] at bb2
         subst e1
         go_wp2_with fail
         go_meet
         exact ⟨rfl, rfl⟩
       case rest => as_aux_lemma =>
       obtain ⟨rfl, rfl⟩ := hcut
       have hw1 := vwbyte_calls HE4.out.2.1.wr (by have := hS.out; rw [List.length_append, List.length_append]; omega) LB
       have y1 := HE4.out.2.1.eb.blk.cell 0 rfl
       clear bb2
       go_wp2_with fail
       refine hw1.mono ?_
       rintro e w9 ⟨rfl, col9, hk9, hw9⟩
       have hE9 := HE4.out.2.1.next hk9 hw9
       have hK9 := HE4.out.1.trans hk9
       have y9 := hE9.eb.blk.cell 0 rfl
       have t9 := hE9.wr.kwb.blk.cell 1 rfl
       have heq : X4 ++ CB ++ [LB] = encMany bs.length nd := by
        rw [← hS.out]
        exact many_eq S nd k F O U q N0 LB Y X1 X2 X3 X4 CB hnn.out (by rw [← hF.out]; unfold farK; rw [hnn.out, List.take_length]) (by rw [← hO.out]; unfold outK; rw [hnn.out, List.take_length]) (by rw [← hY.out]; unfold anyK; rw [hnn.out, List.take_length]) hU.out hX1.out hX2.out hX3.out hq.out hX4.out hN0.out hCB.out hLB.out
       have hpos : 0 < (encMany bs.length nd).length := by rw [← heq]; simp; omega
       rw [List.append_assoc (bs), List.append_assoc bs, heq] at hE9 t9
       obtain ⟨T, hT⟩ : ∃ T, Hid ((bs ++ encMany bs.length nd).length = T + 1) := ⟨(bs ++ encMany bs.length nd).length - 1, Lib.hid (by rw [List.length_append]; omega)⟩
       rw [hT.out] at t9
       have e9 : IntKind.i64.wrap ((T : Int) + 1 - 1) = (T : Int) := by rw [IntWalk.i64_in _ (by have := hT.out; have h2 := congrArg List.length heq; simp only [List.length_append, List.length_cons, List.length_nil] at h2 this; have := hS.out; omega)]; omega
       have e8 : IntKind.i64.wrap (T : Int) = (T : Int) := by rw [IntWalk.i64_in _ (by have := hT.out; have h2 := congrArg List.length heq; simp only [List.length_append, List.length_cons, List.length_nil] at h2 this; have := hS.out; omega)]
       have HZ := Lib.hid (And.intro hK9 hE9)
       clear hw1 hk9 hw9 hK9 hE9 HE4 y1 heq hpos
       go_wp2_with fail
       go_ret2
       have eT : bs.length + (encMany bs.length nd).length - 1 = T := by have := hT.out; rw [List.length_append] at this; omega
       rw [eT]
       obtain ⟨z1, z2⟩ := HZ.out
       rw [hw00.out] at z1
       exact ⟨rfl, col9, z1, z2⟩
      ·as_aux_lemma =>
       obtain rfl : q = (j : Int) := by omega
       clear hq
       have hjk : j < k := by omega
       have e2 : IntKind.i64.wrap ((j : Int) - 1) = (j : Int) - 1 := IntWalk.i64_in _ (by omega)
       obtain ⟨t, ht⟩ : ∃ t, nd.arcs[j]? = some t := ⟨_, List.getElem?_eq_getElem (by rw [← hnn.out]; omega)⟩
       have hrev : nd.arcs.reverse[k - (j + 1)]? = some t := by
        have := rev_get ht
        rw [← hnn.out] at this
        rw [show k - (j + 1) = k - 1 - j by omega]; exact this
       have htm := List.mem_of_getElem? ht
       obtain ⟨g, c', hge, -, -, ca0, ca1, ca2, hg5⟩ := hN2.arc ht
       injection hge with hge hge2 hge3
       subst hge hge3
       clear hge2
       rw [Nat.mul_comm 3 j] at ca0 ca1 ca2
       have y1 := hE2.eb.blk.cell 0 rfl
       have bb1 := hN2.blk.blk.cell 1 rfl
       rw [← hnn.out] at bb1
       have h2 : (nd.arcs.reverse.take (k - (j + 1))).length ≤ 256 := by rw [List.length_take]; omega
       have h4 := hS.out
       have hst : ∀ L : List Nat, L ++ (nd.arcs.reverse.take (k - (j + 1))).flatMap (fun t => [t.1]) ++ [t.1] = L ++ (nd.arcs.reverse.take (k - j)).flatMap (fun t => [t.1]) := fun L => by
        rw [List.append_assoc, show k - j = k - (j + 1) + 1 by omega, List.take_add_one, hrev]; simp
       have hw1 := vwbyte_calls hE2.wr.drew (by
        simp only [List.length_append]
        have h1 := flat_len (nd.arcs.reverse.take (k - (j + 1))) (fun t : Nat × Nat × Nat => [t.1]) 8 (fun a => by simp)
        omega) t.1
       rw [hst] at hw1
       have HQ := Lib.hid (And.intro hK2 (And.intro hE2 hN2))
       clear htm hst
       generalize t.1 = kv at *
       clear hK2 hE2 hN2 hrev ht ca0 ca1 h4 h2
       go_wp2_with fail
       refine wp_region_seqV (fun W => W.cell? ⟨eb, 0, none⟩ = some (.pointer (some ⟨wb, 0, none⟩)) ∧ W.cell? ⟨x, 1, none⟩ = some (.slice (some ⟨g, 0, none⟩) k c) ∧ W.cell? ⟨g, j * 3 + 2, none⟩ = some (.int .u8 (kv : Int))) (fun i => decide (i ≠ 12)) (fun i => ![3, 7, 11].contains i && decide (i ≠ 12)) (fun i => false) [0, 1, 2, 3, 4, 5, 6, 7, 8, 9, 10, 11, 12, 13] (by kernel_rfl) (by kernel_rfl) (fun c a d v w h => by cases d <;> exact h) ⟨y1, bb1, ca2⟩ ?_
       iterate 3 (apply seqV_pure (ho := rfl) (hr := rfl) (hg := rfl); (intro w'; go_simp; rfl))
       (apply seqV_read (ho := rfl) (hr := rfl) (hp := rfl) (hg := rfl); (rintro w' ⟨q0, q1, q2⟩; go_simp; rfl))
       go_simp
       iterate 3 (apply seqV_pure (ho := rfl) (hr := rfl) (hg := rfl); (intro w'; go_simp; rfl))
       (apply seqV_read (ho := rfl) (hr := rfl) (hp := rfl) (hg := rfl); (rintro w' ⟨q0, q1, q2⟩; go_simp; rfl))
       go_simp
       iterate 3 (apply seqV_pure (ho := rfl) (hr := rfl) (hg := rfl); (intro w'; go_simp; rfl))
       (apply seqV_read (ho := rfl) (hr := rfl) (hp := rfl) (hg := rfl); (rintro w' ⟨q0, q1, q2⟩; go_simp; rfl))
       go_simp
       refine seqV_do rfl rfl fun K hK => ?_
       go_simp
       refine hw1.mono ?_
       rintro e w2 ⟨rfl, col3, hk3, hw3⟩
       have hE3 := HQ.out.2.1.drew.next hk3 hw3
       have hN3 := HQ.out.2.2.drew.kp hk3 (three_not (by omega)) (three_not (by omega))
       have k2 := hk3.fr.cell ca2 (by rw [hg5]; exact three_not (by omega))
       have k3 := hN3.blk.blk.cell 1 rfl
       rw [← hnn.out] at k3
       refine hK _ _ (fun _ => ⟨hE3.eb.blk.cell 0 rfl, k3, k2⟩) ?_
       have HZ := Lib.hid (And.intro (HQ.out.1.trans ((Kp.refl (three 1) col2 _).drew.trans hk3)) (And.intro hE3 hN3))
       clear hK K hE3 hN3 hk3 hw3 k2 k3 hw1 HQ ca2 bb1 y1
       go_simp
       iterate 1 (apply seqV_pure (ho := rfl) (hr := rfl) (hg := rfl); (intro w'; go_simp; rfl))
       unfold seqV
       go_simp
       go_wp2_with fail
       go_roundg (j + 1)
       case measure => omega
       case rel => exact ⟨j, (j : Int) - 1, by omega, rfl, rfl, rfl, col3, HZ.out⟩
    ·as_aux_lemma =>
     obtain rfl : q = (j : Int) := by omega
     clear hq
     have hjk : j < k := by omega
     have e2 : IntKind.i64.wrap ((j : Int) - 1) = (j : Int) - 1 := IntWalk.i64_in _ (by omega)
     obtain ⟨t, ht⟩ : ∃ t, nd.arcs[j]? = some t := ⟨_, List.getElem?_eq_getElem (by rw [← hnn.out]; omega)⟩
     have hrev : nd.arcs.reverse[k - (j + 1)]? = some t := by
      have := rev_get ht
      rw [← hnn.out] at this
      rw [show k - (j + 1) = k - 1 - j by omega]; exact this
     have htm := List.mem_of_getElem? ht
     obtain ⟨g, c', hge, -, -, ca0, ca1, ca2, hg5⟩ := hN2.arc ht
     injection hge with hge hge2 hge3
     subst hge hge3
     clear hge2
     rw [Nat.mul_comm 3 j] at ca0 ca1 ca2
     have y1 := hE2.eb.blk.cell 0 rfl
     have bb1 := hN2.blk.blk.cell 1 rfl
     rw [← hnn.out] at bb1
     have h2 : (nd.arcs.reverse.take (k - (j + 1))).length ≤ 256 := by rw [List.length_take]; omega
     have h4 := hS.out
     have hst : ∀ L : List Nat, L ++ (nd.arcs.reverse.take (k - (j + 1))).flatMap (fun t => pk (delta S t.2.2) F) ++ pk (delta S t.2.2) F = L ++ (nd.arcs.reverse.take (k - j)).flatMap (fun t => pk (delta S t.2.2) F) := fun L => by
      rw [List.append_assoc, show k - j = k - (j + 1) + 1 by omega, List.take_add_one, hrev]; simp
     have ha := HH.out.2.2.adr t htm
     rw [← hS.out] at ha
     have hdc := fun w => delta_calls w S t.2.2 (by omega) (by omega)
     have hdl : delta S t.2.2 < 18446744073709551616 := by unfold delta; split <;> omega
     have ew2 : IntKind.u64.wrap (t.2.2 : Int) = (t.2.2 : Int) := IntWalk.u64_in _ (by omega)
     have hw1 := wpack_calls hE2.wr (delta S t.2.2) F hdl hFl (by
      simp only [List.length_append]
      have h1 := flat_len (nd.arcs.reverse.take (k - (j + 1))) (fun t : Nat × Nat × Nat => pk (delta S t.2.2) F) 8 (fun a => by rw [pk_len]; exact hFl)
      omega)
     rw [hst] at hw1
     have HQ := Lib.hid (And.intro hK2 (And.intro hE2 hN2))
     clear htm hst hdl
     generalize delta S t.2.2 = D at *
     generalize t.2.2 = av at *
     clear hK2 hE2 hN2 hrev ht ca0 ca2 h4 h2
     go_wp2_with (first | (go_at_call 162; refine (hdc _).mono ?_; rintro e w' ⟨rfl, hw'⟩; obtain rfl := hw'.symm; clear hw') | (go_at_call 163; refine (hw1).mono ?_; rintro e w2 ⟨rfl, col3, hk3, hw3⟩) | fail)
     have hE3 := HQ.out.2.1.next hk3 hw3
     have hN3 := HQ.out.2.2.kp hk3 (three_not (by omega)) (three_not (by omega))
     have HZ := Lib.hid (And.intro (HQ.out.1.trans hk3) (And.intro hE3 hN3))
     clear hE3 hN3 hk3 hw3 hw1 hdc HQ ca1 bb1 y1
     go_wp2_with fail
     go_roundg (j + 1)
     case measure => omega
     case rel => exact ⟨j, (j : Int) - 1, by omega, rfl, rfl, rfl, col3, HZ.out⟩
end Go.Proofs.YtmhlnijpimjjaaaGreatDoor
