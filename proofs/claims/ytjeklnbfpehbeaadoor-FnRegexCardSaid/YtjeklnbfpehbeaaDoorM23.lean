/- The walk of 'Begins' of the law's own side at repetitions. Condition: the expression is right, the text at most 40 bytes. The walk of 'Begins' of the law's own side at the classes. Condition: the expression is right, the text at most 40 bytes. 'Begins' at any expression, 'Matches', 'Can', 'zzFits10' and 'fewBytes' of the law's own side. Condition: the expression is right, the text at most 40 bytes. What the law needs of the expression: it is narrow, of few places. 'Expression' at five levels. Condition: the value reads four levels deep. -/
import Derived.Test.YtjeklnbfpehbeaaDoorM22
import Derived.Test.YtjeklnbfpehbeaaDoorM20
set_option linter.unusedVariables false
/- The walk of 'Begins' of the law's own side at repetitions. Condition: the expression is right, the text at most 40 bytes. -/
namespace Go.Proofs.YtjeklnbfpehbeaaDoor
open Go.RowKit

set_option maxRecDepth 100000 in
set_option maxHeartbeats 4000000 in
theorem bg_none {q r : RE} {lo : Nat} (hwf : WfR q) (hti : timesOf q = some (r, lo, none)) (ih : BgC r) : BgC q := by
  intro w v fv t A hv hA hl ht
  obtain ⟨hlang, hwr, hhi, hlo⟩ := lang_times hwf hti
  obtain ⟨hsub, ho1, ho2⟩ := times_subs hti
  have hvv := hv
  obtain @⟨_, vA, vc, rv, um, ux, xs, hru, hr0, hm, hx, hs⟩ := hv
  obtain ⟨uA, uc, hrv, -⟩ := id hru
  obtain ⟨un, hun⟩ : ∃ z, Hid (z = (runesOf q).length) := ⟨_, Lib.hid rfl⟩
  rw [← hun.out] at hrv
  subst hrv
  have HKd : Hid (KidsR w q vA xs) := Lib.hid ⟨hx, hs⟩
  clear hru hr0 hm hx hs
  obtain ⟨o, ho⟩ : ∃ o, Hid (o = opOf q) := ⟨_, Lib.hid rfl⟩
  rw [← ho.out] at ho1 ho2 hvv ⊢
  have hsl : (subsOf q).length = 1 := by rw [hsub]; rfl
  rw [hsl] at hvv ⊢
  have hsr : Hid (∃ w, Lang r w) := Lib.hid (lang_some r hwr)
  have HT := Lib.hid (And.intro hlang (And.intro hwr (And.intro hhi (And.intro hlo hsub))))
  have hlo2 : lo ≤ 1000 := hlo
  skip
  have HVV := Lib.hid hvv
  clear hlang hwr hhi hlo hsub hsl hvv
  have n2 : ¬ ((o : Int) = 2) := by omega
  have e2 : ((o : Int) == 2) = false := by rw [beq_eq_false_iff_ne]; omega
  have n3 : ¬ ((o : Int) = 3) := by omega
  have e3 : ((o : Int) == 3) = false := by rw [beq_eq_false_iff_ne]; omega
  have n4 : ¬ ((o : Int) = 4) := by omega
  have e4 : ((o : Int) == 4) = false := by rw [beq_eq_false_iff_ne]; omega
  have n6 : ¬ ((o : Int) = 6) := by omega
  have e6 : ((o : Int) == 6) = false := by rw [beq_eq_false_iff_ne]; omega
  have n5 : ¬ ((o : Int) = 5) := by omega
  have e5 : ((o : Int) == 5) = false := by rw [beq_eq_false_iff_ne]; omega
  have n18 : ¬ ((o : Int) = 18) := by omega
  have e18 : ((o : Int) == 18) = false := by rw [beq_eq_false_iff_ne]; omega
  have n19 : ¬ ((o : Int) = 19) := by omega
  have e19 : ((o : Int) == 19) = false := by rw [beq_eq_false_iff_ne]; omega
  have n13 : ¬ ((o : Int) = 13) := by omega
  have e13 : ((o : Int) == 13) = false := by rw [beq_eq_false_iff_ne]; omega
  have hsome : Hid (∃ w, Lang q w) := Lib.hid (by first | exact lang_some _ hwf | exact lang_some _ (by simp only [WfR]))
  have hA0 := hA
  obtain ⟨b1, o1, c1, cs1, rfl, hcA, hbA, hcellA⟩ := hA0
  rw [hl] at hA ⊢
  have hF1 : Fr (fun _ => False) w (w.alloc (.cells #[.int .i64 (o : Int), .slice uA un uc, .int .i64 um, .int .i64 ux, .bool false, .bool false, .slice vA 1 vc] 25)) := (Fr.refl _ w).alloc _
  have hB0 : Blk (w.alloc (.cells #[.int .i64 (o : Int), .slice uA un uc, .int .i64 um, .int .i64 ux, .bool false, .bool false, .slice vA 1 vc] 25)) w.heap.size [.int .i64 (o : Int), .slice uA un uc, .int .i64 um, .int .i64 ux, .bool false, .bool false, .slice vA 1 vc] 25 := Blk.new w [_, _, _, _, _, _, _] 25
  have hA1 := hA.fr hF1 (fun _ _ _ h => h)
  have hnone := none_spec hA1 (by rw [hl]; omega)
  obtain ⟨x, hx⟩ : ∃ x, A[t.size]? = some x := ⟨_, List.getElem?_eq_getElem (by omega)⟩
  have r0 := hF1.cell (hcellA t.size x hx) (fun h => h)
  have HI := Lib.hid (And.intro hA1 (And.intro hF1 (And.intro hB0 (And.intro hx (And.intro hl (And.intro hcellA hbA))))))
  clear hA hA1 hF1 hB0 hbA hcellA hcA hx hl
  go_enter Tryd.func23, Tryd.ntmps23
  go_wp2_with fail
  refine hnone.mono ?_
  rintro e w2 ⟨rfl, rfl⟩
  clear hnone
  by_cases hall : A.all (!·) = true
  · rw [hall]
    have hH := Lib.hid hall
    clear hall
    go_wp2_with fail
    go_ret
    exact ⟨false, rfl, ⟨fun e => by simp at e, fun e => absurd e (no_begs hH.out)⟩, HI.out.2.1⟩
  have hall' : A.all (!·) = false := by simpa using hall
  rw [hall']
  clear hall hall'
  cases x with
  | true =>
    go_wp2_with fail
    go_ret
    exact ⟨true, rfl, ⟨fun _ => begs_end (show On A (bytesOf t).length by rw [bytes_len]; exact HI.out.2.2.2.1) hsome.out, fun _ => rfl⟩, HI.out.2.1⟩
  | false =>
    have hNn : Hid (¬ On A (bytesOf t).length) := Lib.hid (by rw [bytes_len]; intro h; have h2 := HI.out.2.2.2.1; unfold On at h; rw [h2] at h; simp at h)
    have y0 := HI.out.2.2.1.cell 0 rfl
    have y1 := HI.out.2.2.1.cell 1 rfl
    have y2 := HI.out.2.2.1.cell 2 rfl
    have y3 := HI.out.2.2.1.cell 3 rfl
    have y4 := HI.out.2.2.1.cell 4 rfl
    have y5 := HI.out.2.2.1.cell 5 rfl
    have y6 := HI.out.2.2.1.cell 6 rfl
    have htc2 := times_calls _ (HVV.out.fr HI.out.2.1 (fun _ _ _ _ _ h => h)) hti
    simp only [maxOf] at htc2
    obtain ⟨b, ob, x0, x1, x2, x3, x4, x5, x6, hvA, -⟩ := HKd.out.get HI.out.2.1 (fun _ _ h => h) (k := 0) (show (subsOf q)[0]? = some r by rw [HT.out.2.2.2.2]; rfl)
    subst hvA
    go_wp2_with fail
    refine htc2.mono ?_
    rintro e w3 ⟨rfl, hf3⟩
    clear htc2 y0 y1 y2 y3 y4 y5 y6 r0
    have hB3 := Lib.hid (And.intro (HI.out.2.2.1.fr hf3 (fun h => h)) (And.intro (HI.out.2.1.trans hf3 (fun _ _ h => h)) (HI.out.1.fr hf3 (fun _ _ _ h => h))))
    clear hf3
    go_wp2_with fail
    clear n2 n3 n4 n6 n5 n18 n19 n13 e2 e3 e4 e6 e5 e18 e19 e13
    go_loopg [2, 15] ((t.size + 1) + 1) (fun gg s i wr => ∃ (m g2 o2 c : Nat) (B : List Bool), m ≤ (t.size + 1) ∧ gg = (t.size + 1) - m + 1 ∧ i = .int .i64 (m : Int) ∧ s = .slice (some ⟨g2, o2, none⟩) (t.size + 1) c ∧ SetAt wr (.slice (some ⟨g2, o2, none⟩) (t.size + 1) c) B ∧ Hid (B.length = t.size + 1 ∧ ∀ j, On B j ↔ Ends (Pow_ (Lang r) m) (bytesOf t) (On A) j) ∧ Hid (∀ i, i < m → ¬ Begs (Lang r) (bytesOf t) (Ends (Pow_ (Lang r) i) (bytesOf t) (On A))) ∧ Fr (fun _ => False) w3 wr)
    case atStart => exact ⟨0, b1, o1, c1, A, by omega, rfl, rfl, rfl, hB3.out.2.2, Lib.hid ⟨HI.out.2.2.2.2.1, fun j => by
      rw [show Pow_ (Lang r) 0 = One_ from rfl, ends_one]
      exact ⟨fun h => ⟨by rw [bytes_len]; exact on_le (n := t.size) HI.out.2.2.2.2.1 h, h⟩, fun h => h.2⟩⟩, Lib.hid (fun i h => by omega), Fr.refl _ w3⟩
    case round =>
      obtain ⟨m, g2, o2, c2, B, hm, rfl, rfl, rfl, hB, hBp, hno, hF⟩ := hrel
      have y6 := (hB3.out.1.fr hF (fun h => h)).cell 6 rfl
      have hm9 : m ≤ 2000 := by omega
      by_cases hlt : m < (t.size + 1)
      · have c1 : (m : Int) < (t.size : Int) + 1 := by omega
        obtain ⟨b', ob', x0, x1, x2, x3, x4, x5, x6, hvA, hre, z0, z1, z2, z3, z4, z5, z6⟩ := HKd.out.get (hB3.out.2.1.trans hF (fun _ _ h => h)) (fun _ _ h => h) (k := 0) (show (subsOf q)[0]? = some r by rw [HT.out.2.2.2.2]; rfl)
        simp at hvA
        obtain ⟨rfl, rfl⟩ := hvA
        simp only [Nat.zero_mul, Nat.add_zero] at z0 z1 z2 z3 z4 z5 z6
        have hc := ih wr _ _ t B hre hB hBp.out.1 ht
        have HX := Lib.hid (And.intro hF (And.intro hB hre))
        clear hF hre hB
        go_wp2_with fail
        refine hc.mono ?_
        rintro e w4 ⟨z, rfl, hz, hf⟩
        have hbe : Begs (Lang r) (bytesOf t) (On B) ↔ Begs (Lang r) (bytesOf t) (Ends (Pow_ (Lang r) m) (bytesOf t) (On A)) := begs_mono (fun _ => Iff.rfl) (fun i _ => hBp.out.2 i)
        rw [hbe] at hz
        clear hc hbe
        cases z with
        | true =>
          have HZ := Lib.hid (And.intro hz hf)
          clear hz hf z0 z1 z2 z3 z4 z5 z6 y6
          go_wp2_with fail
          go_ret
          refine ⟨true, rfl, ⟨fun _ => ?_, fun _ => rfl⟩, (hB3.out.2.1.trans HX.out.1 (fun _ _ h => h)).trans HZ.out.2 (fun _ _ h => h)⟩
          refine (begs_mono HT.out.1 (fun _ _ => Iff.rfl)).2 ((begs_rep hsr.out (fun x hx => (HT.out.2.2.1 x hx).1) hNn.out).2 ⟨m, ?_, ?_, HZ.out.1.1 (by trivial)⟩)
          · exact fun x hx => nomatch hx
          · exact fun _ => by rw [bytes_len]; omega
        | false =>
          have y6' := hf.cell y6 (fun h => h)
          have z0' := hf.cell z0 (fun h => h)
          have z1' := hf.cell z1 (fun h => h)
          have z2' := hf.cell z2 (fun h => h)
          have z3' := hf.cell z3 (fun h => h)
          have z4' := hf.cell z4 (fun h => h)
          have z5' := hf.cell z5 (fun h => h)
          have z6' := hf.cell z6 (fun h => h)
          have hc2 := reached_calls r HT.out.2.1 w4 _ _ t B (HX.out.2.2.fr hf (fun _ _ _ _ _ h => h)) (HX.out.2.1.fr hf (fun _ _ _ h => h)) hBp.out.1 ht
          have HZ := Lib.hid (And.intro hz hf)
          clear hz hf z0 z1 z2 z3 z4 z5 z6 y6
          go_wp2_with fail
          refine hc2.mono ?_
          rintro e w5 ⟨g', c', B', rfl, hB', hl', hE', hf'⟩
          clear hc2 z0' z1' z2' z3' z4' z5' z6' y6'
          rw [hl', hBp.out.1]
          have HY := Lib.hid (And.intro hB' (And.intro hE' (And.intro hf' hl')))
          clear hB' hE' hf' hl'
          go_wp2_with fail
          go_roundg ((t.size + 1) - (m + 1) + 1)
          case measure => omega
          case rel =>
            obtain ⟨hB', hE', hf', hl'⟩ := HY.out
            refine ⟨m + 1, g', 0, c', B', by omega, rfl, by simp, rfl, by have := hB'.set; rw [hl', hBp.out.1] at this; exact this, Lib.hid ⟨by rw [hl', hBp.out.1], fun j => ?_⟩, Lib.hid (fun i hi hb => ?_), (HX.out.1.trans HZ.out.2 (fun _ _ h => h)).trans hf' (fun _ _ h => h)⟩
            · rw [hE' j]
              have h1 : Ends (Lang r) (bytesOf t) (On B) j ↔ Ends (Lang r) (bytesOf t) (Ends (Pow_ (Lang r) m) (bytesOf t) (On A)) j := ends_mono (fun _ _ => Iff.rfl) (fun i _ => hBp.out.2 i) j
              rw [h1, ← ends_seq]
              exact ends_mono (fun w _ => (pow_snoc m w).symm) (fun _ _ => Iff.rfl) j
            · by_cases e : i = m
              · subst e
                have := HZ.out.1.2 hb
                simp at this
              · exact hno.out i (by omega) hb
      · have hme : m = (t.size + 1) := by omega
        subst hme
        have c1 : ¬ (((t.size + 1 : Nat) : Int) < (t.size : Int) + 1) := by omega
        have c3 : ¬ (((t.size + 1 : Nat) : Int) < -1) := by omega
        have HX := Lib.hid hF
        clear hF hB
        go_wp2_with fail
        go_ret
        refine ⟨false, rfl, ⟨fun e => by simp at e, fun e => ?_⟩, hB3.out.2.1.trans HX.out (fun _ _ h => h)⟩
        obtain ⟨k, h1, h2, hb⟩ := (begs_rep hsr.out (fun x hx => (HT.out.2.2.1 x hx).1) hNn.out).1 ((begs_mono HT.out.1 (fun _ _ => Iff.rfl)).1 e)
        exact absurd hb (hno.out k (by have := h2 rfl; rw [bytes_len] at this; omega))

set_option maxRecDepth 100000 in
set_option maxHeartbeats 4000000 in
theorem bg_some {q r : RE} {lo : Nat} {h : Nat} (hwf : WfR q) (hti : timesOf q = some (r, lo, some h)) (ih : BgC r) : BgC q := by
  intro w v fv t A hv hA hl ht
  obtain ⟨hlang, hwr, hhi, hlo⟩ := lang_times hwf hti
  obtain ⟨hsub, ho1, ho2⟩ := times_subs hti
  have hvv := hv
  obtain @⟨_, vA, vc, rv, um, ux, xs, hru, hr0, hm, hx, hs⟩ := hv
  obtain ⟨uA, uc, hrv, -⟩ := id hru
  obtain ⟨un, hun⟩ : ∃ z, Hid (z = (runesOf q).length) := ⟨_, Lib.hid rfl⟩
  rw [← hun.out] at hrv
  subst hrv
  have HKd : Hid (KidsR w q vA xs) := Lib.hid ⟨hx, hs⟩
  clear hru hr0 hm hx hs
  obtain ⟨o, ho⟩ : ∃ o, Hid (o = opOf q) := ⟨_, Lib.hid rfl⟩
  rw [← ho.out] at ho1 ho2 hvv ⊢
  have hsl : (subsOf q).length = 1 := by rw [hsub]; rfl
  rw [hsl] at hvv ⊢
  have hsr : Hid (∃ w, Lang r w) := Lib.hid (lang_some r hwr)
  have HT := Lib.hid (And.intro hlang (And.intro hwr (And.intro hhi (And.intro hlo hsub))))
  have hlo2 : lo ≤ 1000 := hlo
  have hh9 : h ≤ 1000 := (hhi h rfl).2
  have HVV := Lib.hid hvv
  clear hlang hwr hhi hlo hsub hsl hvv
  have n2 : ¬ ((o : Int) = 2) := by omega
  have e2 : ((o : Int) == 2) = false := by rw [beq_eq_false_iff_ne]; omega
  have n3 : ¬ ((o : Int) = 3) := by omega
  have e3 : ((o : Int) == 3) = false := by rw [beq_eq_false_iff_ne]; omega
  have n4 : ¬ ((o : Int) = 4) := by omega
  have e4 : ((o : Int) == 4) = false := by rw [beq_eq_false_iff_ne]; omega
  have n6 : ¬ ((o : Int) = 6) := by omega
  have e6 : ((o : Int) == 6) = false := by rw [beq_eq_false_iff_ne]; omega
  have n5 : ¬ ((o : Int) = 5) := by omega
  have e5 : ((o : Int) == 5) = false := by rw [beq_eq_false_iff_ne]; omega
  have n18 : ¬ ((o : Int) = 18) := by omega
  have e18 : ((o : Int) == 18) = false := by rw [beq_eq_false_iff_ne]; omega
  have n19 : ¬ ((o : Int) = 19) := by omega
  have e19 : ((o : Int) == 19) = false := by rw [beq_eq_false_iff_ne]; omega
  have n13 : ¬ ((o : Int) = 13) := by omega
  have e13 : ((o : Int) == 13) = false := by rw [beq_eq_false_iff_ne]; omega
  have hsome : Hid (∃ w, Lang q w) := Lib.hid (by first | exact lang_some _ hwf | exact lang_some _ (by simp only [WfR]))
  have hA0 := hA
  obtain ⟨b1, o1, c1, cs1, rfl, hcA, hbA, hcellA⟩ := hA0
  rw [hl] at hA ⊢
  have hF1 : Fr (fun _ => False) w (w.alloc (.cells #[.int .i64 (o : Int), .slice uA un uc, .int .i64 um, .int .i64 ux, .bool false, .bool false, .slice vA 1 vc] 25)) := (Fr.refl _ w).alloc _
  have hB0 : Blk (w.alloc (.cells #[.int .i64 (o : Int), .slice uA un uc, .int .i64 um, .int .i64 ux, .bool false, .bool false, .slice vA 1 vc] 25)) w.heap.size [.int .i64 (o : Int), .slice uA un uc, .int .i64 um, .int .i64 ux, .bool false, .bool false, .slice vA 1 vc] 25 := Blk.new w [_, _, _, _, _, _, _] 25
  have hA1 := hA.fr hF1 (fun _ _ _ h => h)
  have hnone := none_spec hA1 (by rw [hl]; omega)
  obtain ⟨x, hx⟩ : ∃ x, A[t.size]? = some x := ⟨_, List.getElem?_eq_getElem (by omega)⟩
  have r0 := hF1.cell (hcellA t.size x hx) (fun h => h)
  have HI := Lib.hid (And.intro hA1 (And.intro hF1 (And.intro hB0 (And.intro hx (And.intro hl (And.intro hcellA hbA))))))
  clear hA hA1 hF1 hB0 hbA hcellA hcA hx hl
  go_enter Tryd.func23, Tryd.ntmps23
  go_wp2_with fail
  refine hnone.mono ?_
  rintro e w2 ⟨rfl, rfl⟩
  clear hnone
  by_cases hall : A.all (!·) = true
  · rw [hall]
    have hH := Lib.hid hall
    clear hall
    go_wp2_with fail
    go_ret
    exact ⟨false, rfl, ⟨fun e => by simp at e, fun e => absurd e (no_begs hH.out)⟩, HI.out.2.1⟩
  have hall' : A.all (!·) = false := by simpa using hall
  rw [hall']
  clear hall hall'
  cases x with
  | true =>
    go_wp2_with fail
    go_ret
    exact ⟨true, rfl, ⟨fun _ => begs_end (show On A (bytesOf t).length by rw [bytes_len]; exact HI.out.2.2.2.1) hsome.out, fun _ => rfl⟩, HI.out.2.1⟩
  | false =>
    have hNn : Hid (¬ On A (bytesOf t).length) := Lib.hid (by rw [bytes_len]; intro h; have h2 := HI.out.2.2.2.1; unfold On at h; rw [h2] at h; simp at h)
    have y0 := HI.out.2.2.1.cell 0 rfl
    have y1 := HI.out.2.2.1.cell 1 rfl
    have y2 := HI.out.2.2.1.cell 2 rfl
    have y3 := HI.out.2.2.1.cell 3 rfl
    have y4 := HI.out.2.2.1.cell 4 rfl
    have y5 := HI.out.2.2.1.cell 5 rfl
    have y6 := HI.out.2.2.1.cell 6 rfl
    have htc2 := times_calls _ (HVV.out.fr HI.out.2.1 (fun _ _ _ _ _ h => h)) hti
    simp only [maxOf] at htc2
    obtain ⟨b, ob, x0, x1, x2, x3, x4, x5, x6, hvA, -⟩ := HKd.out.get HI.out.2.1 (fun _ _ h => h) (k := 0) (show (subsOf q)[0]? = some r by rw [HT.out.2.2.2.2]; rfl)
    subst hvA
    go_wp2_with fail
    refine htc2.mono ?_
    rintro e w3 ⟨rfl, hf3⟩
    clear htc2 y0 y1 y2 y3 y4 y5 y6 r0
    have hB3 := Lib.hid (And.intro (HI.out.2.2.1.fr hf3 (fun h => h)) (And.intro (HI.out.2.1.trans hf3 (fun _ _ h => h)) (HI.out.1.fr hf3 (fun _ _ _ h => h))))
    clear hf3
    go_wp2_with fail
    clear n2 n3 n4 n6 n5 n18 n19 n13 e2 e3 e4 e6 e5 e18 e19 e13
    go_loopg [2, 15] (h + 1) (fun gg s i wr => ∃ (m g2 o2 c : Nat) (B : List Bool), m ≤ h ∧ gg = h - m + 1 ∧ i = .int .i64 (m : Int) ∧ s = .slice (some ⟨g2, o2, none⟩) (t.size + 1) c ∧ SetAt wr (.slice (some ⟨g2, o2, none⟩) (t.size + 1) c) B ∧ Hid (B.length = t.size + 1 ∧ ∀ j, On B j ↔ Ends (Pow_ (Lang r) m) (bytesOf t) (On A) j) ∧ Hid (∀ i, i < m → ¬ Begs (Lang r) (bytesOf t) (Ends (Pow_ (Lang r) i) (bytesOf t) (On A))) ∧ Fr (fun _ => False) w3 wr)
    case atStart => exact ⟨0, b1, o1, c1, A, by omega, rfl, rfl, rfl, hB3.out.2.2, Lib.hid ⟨HI.out.2.2.2.2.1, fun j => by
      rw [show Pow_ (Lang r) 0 = One_ from rfl, ends_one]
      exact ⟨fun h => ⟨by rw [bytes_len]; exact on_le (n := t.size) HI.out.2.2.2.2.1 h, h⟩, fun h => h.2⟩⟩, Lib.hid (fun i h => by omega), Fr.refl _ w3⟩
    case round =>
      obtain ⟨m, g2, o2, c2, B, hm, rfl, rfl, rfl, hB, hBp, hno, hF⟩ := hrel
      have y6 := (hB3.out.1.fr hF (fun h => h)).cell 6 rfl
      have hm9 : m ≤ 2000 := by omega
      by_cases hlt : m < h
      · have c1 : (m : Int) < (h : Int) := by omega
        have c3 : ¬ ((h : Int) < 0) := by omega
        obtain ⟨b', ob', x0, x1, x2, x3, x4, x5, x6, hvA, hre, z0, z1, z2, z3, z4, z5, z6⟩ := HKd.out.get (hB3.out.2.1.trans hF (fun _ _ h => h)) (fun _ _ h => h) (k := 0) (show (subsOf q)[0]? = some r by rw [HT.out.2.2.2.2]; rfl)
        simp at hvA
        obtain ⟨rfl, rfl⟩ := hvA
        simp only [Nat.zero_mul, Nat.add_zero] at z0 z1 z2 z3 z4 z5 z6
        have hc := ih wr _ _ t B hre hB hBp.out.1 ht
        have HX := Lib.hid (And.intro hF (And.intro hB hre))
        clear hF hre hB
        go_wp2_with fail
        refine hc.mono ?_
        rintro e w4 ⟨z, rfl, hz, hf⟩
        have hbe : Begs (Lang r) (bytesOf t) (On B) ↔ Begs (Lang r) (bytesOf t) (Ends (Pow_ (Lang r) m) (bytesOf t) (On A)) := begs_mono (fun _ => Iff.rfl) (fun i _ => hBp.out.2 i)
        rw [hbe] at hz
        clear hc hbe
        cases z with
        | true =>
          have HZ := Lib.hid (And.intro hz hf)
          clear hz hf z0 z1 z2 z3 z4 z5 z6 y6
          go_wp2_with fail
          go_ret
          refine ⟨true, rfl, ⟨fun _ => ?_, fun _ => rfl⟩, (hB3.out.2.1.trans HX.out.1 (fun _ _ h => h)).trans HZ.out.2 (fun _ _ h => h)⟩
          refine (begs_mono HT.out.1 (fun _ _ => Iff.rfl)).2 ((begs_rep hsr.out (fun x hx => (HT.out.2.2.1 x hx).1) hNn.out).2 ⟨m, ?_, ?_, HZ.out.1.1 (by trivial)⟩)
          · exact fun x hx => by injection hx with hx; omega
          · exact fun hx => nomatch hx
        | false =>
          have y6' := hf.cell y6 (fun h => h)
          have z0' := hf.cell z0 (fun h => h)
          have z1' := hf.cell z1 (fun h => h)
          have z2' := hf.cell z2 (fun h => h)
          have z3' := hf.cell z3 (fun h => h)
          have z4' := hf.cell z4 (fun h => h)
          have z5' := hf.cell z5 (fun h => h)
          have z6' := hf.cell z6 (fun h => h)
          have hc2 := reached_calls r HT.out.2.1 w4 _ _ t B (HX.out.2.2.fr hf (fun _ _ _ _ _ h => h)) (HX.out.2.1.fr hf (fun _ _ _ h => h)) hBp.out.1 ht
          have HZ := Lib.hid (And.intro hz hf)
          clear hz hf z0 z1 z2 z3 z4 z5 z6 y6
          go_wp2_with fail
          refine hc2.mono ?_
          rintro e w5 ⟨g', c', B', rfl, hB', hl', hE', hf'⟩
          clear hc2 z0' z1' z2' z3' z4' z5' z6' y6'
          rw [hl', hBp.out.1]
          have HY := Lib.hid (And.intro hB' (And.intro hE' (And.intro hf' hl')))
          clear hB' hE' hf' hl'
          go_wp2_with fail
          go_roundg (h - (m + 1) + 1)
          case measure => omega
          case rel =>
            obtain ⟨hB', hE', hf', hl'⟩ := HY.out
            refine ⟨m + 1, g', 0, c', B', by omega, rfl, by simp, rfl, by have := hB'.set; rw [hl', hBp.out.1] at this; exact this, Lib.hid ⟨by rw [hl', hBp.out.1], fun j => ?_⟩, Lib.hid (fun i hi hb => ?_), (HX.out.1.trans HZ.out.2 (fun _ _ h => h)).trans hf' (fun _ _ h => h)⟩
            · rw [hE' j]
              have h1 : Ends (Lang r) (bytesOf t) (On B) j ↔ Ends (Lang r) (bytesOf t) (Ends (Pow_ (Lang r) m) (bytesOf t) (On A)) j := ends_mono (fun _ _ => Iff.rfl) (fun i _ => hBp.out.2 i) j
              rw [h1, ← ends_seq]
              exact ends_mono (fun w _ => (pow_snoc m w).symm) (fun _ _ => Iff.rfl) j
            · by_cases e : i = m
              · subst e
                have := HZ.out.1.2 hb
                simp at this
              · exact hno.out i (by omega) hb
      · obtain rfl : m = h := by omega
        have c1 : ¬ ((m : Int) < (m : Int)) := by omega
        have c3 : ¬ ((m : Int) < 0) := by omega
        have HX := Lib.hid hF
        clear hF hB
        go_wp2_with fail
        go_ret
        refine ⟨false, rfl, ⟨fun e => by simp at e, fun e => ?_⟩, hB3.out.2.1.trans HX.out (fun _ _ h => h)⟩
        obtain ⟨k, h1, h2, hb⟩ := (begs_rep hsr.out (fun x hx => (HT.out.2.2.1 x hx).1) hNn.out).1 ((begs_mono HT.out.1 (fun _ _ => Iff.rfl)).1 e)
        exact absurd hb (hno.out k (by exact h1 _ rfl))
end Go.Proofs.YtjeklnbfpehbeaaDoor

/- The walk of 'Begins' of the law's own side at the classes. Condition: the expression is right, the text at most 40 bytes. -/
namespace Go.Proofs.YtjeklnbfpehbeaaDoor
open Go.RowKit

theorem begs_class {bs : List Nat} {L : List (Nat × Nat)} {S : Nat → Prop} (hn : ¬ S bs.length) : Begs (ClassW L) bs S ↔ ∃ i, i < bs.length ∧ S i ∧ SomeBeg (bs.drop i) L := by
  constructor
  · rintro ⟨i, h1, h2, v, q, hq, r, h3, h4, h5, h6⟩
    have hi : i < bs.length := by
      by_cases e : i = bs.length
      · subst e; exact absurd h2 hn
      · omega
    exact ⟨i, hi, h2, q, hq, r, h4, h5, h3, ⟨v, h6.symm⟩⟩
  · rintro ⟨i, h1, h2, q, hq, r, h4, h5, h3, v, h6⟩
    exact ⟨i, by omega, h2, v, q, hq, r, h3, h4, h5, h6.symm⟩

set_option maxRecDepth 100000 in
set_option maxHeartbeats 4000000 in
theorem bg_cls (l : List (Nat × Nat)) (hwf : WfR (.cls l)) : BgC (.cls l) := by
  intro w v fv t A hv hA hl ht
  have hwf : WfR (.cls l) := hwf
  have hcl : (pairsOf (.cls l)).length ≤ 1000 := by simp only [WfR] at hwf; exact hwf.2.1
  have hok : ∀ q, q ∈ pairsOf (.cls l) → okRange q.1 q.2 := by simp only [WfR] at hwf; exact hwf.2.2
  have hv0 := hv
  obtain ⟨uA, un, uc, um, ux, vA, vn, vc, rfl⟩ := hv.form
  have hvH := Lib.hid hv0
  clear hv hv0
  simp only [opOf] at hvH ⊢
  obtain ⟨L, hL⟩ : ∃ L, Hid (L = pairsOf (.cls l)) := ⟨_, Lib.hid rfl⟩
  rw [← hL.out] at hcl hok
  have hokH := Lib.hid hok
  clear hok
  have hsome : Hid (∃ w, Lang (.cls l) w) := Lib.hid (by first | exact lang_some _ hwf | exact lang_some _ (by simp only [WfR]))
  have hA0 := hA
  obtain ⟨b1, o1, c1, cs1, rfl, hcA, hbA, hcellA⟩ := hA0
  rw [hl] at hA ⊢
  have hF1 : Fr (fun _ => False) w (w.alloc (.cells #[.int .i64 4, .slice uA un uc, .int .i64 um, .int .i64 ux, .bool false, .bool false, .slice vA vn vc] 25)) := (Fr.refl _ w).alloc _
  have hB0 : Blk (w.alloc (.cells #[.int .i64 4, .slice uA un uc, .int .i64 um, .int .i64 ux, .bool false, .bool false, .slice vA vn vc] 25)) w.heap.size [.int .i64 4, .slice uA un uc, .int .i64 um, .int .i64 ux, .bool false, .bool false, .slice vA vn vc] 25 := Blk.new w [_, _, _, _, _, _, _] 25
  have hA1 := hA.fr hF1 (fun _ _ _ h => h)
  have hnone := none_spec hA1 (by rw [hl]; omega)
  obtain ⟨x, hx⟩ : ∃ x, A[t.size]? = some x := ⟨_, List.getElem?_eq_getElem (by omega)⟩
  have r0 := hF1.cell (hcellA t.size x hx) (fun h => h)
  have HI := Lib.hid (And.intro hA1 (And.intro hF1 (And.intro hB0 (And.intro hx (And.intro hl (And.intro hcellA hbA))))))
  clear hA hA1 hF1 hB0 hbA hcellA hcA hx hl
  go_enter Tryd.func23, Tryd.ntmps23
  go_wp2_with fail
  refine hnone.mono ?_
  rintro e w2 ⟨rfl, rfl⟩
  clear hnone
  by_cases hall : A.all (!·) = true
  · rw [hall]
    have hH := Lib.hid hall
    clear hall
    go_wp2_with fail
    go_ret
    exact ⟨false, rfl, ⟨fun e => by simp at e, fun e => absurd e (no_begs hH.out)⟩, HI.out.2.1⟩
  have hall' : A.all (!·) = false := by simpa using hall
  rw [hall']
  clear hall hall'
  cases x with
  | true =>
    go_wp2_with fail
    go_ret
    exact ⟨true, rfl, ⟨fun _ => begs_end (show On A (bytesOf t).length by rw [bytes_len]; exact HI.out.2.2.2.1) hsome.out, fun _ => rfl⟩, HI.out.2.1⟩
  | false =>
    have hNn : Hid (¬ On A (bytesOf t).length) := Lib.hid (by rw [bytes_len]; intro h; have h2 := HI.out.2.2.2.1; unfold On at h; rw [h2] at h; simp at h)
    go_wp2_with fail
    generalize hWW : (w.alloc (.cells #[.int .i64 4, .slice uA un uc, .int .i64 um, .int .i64 ux, .bool false, .bool false, .slice vA vn vc] 25)) = W2 at *
    clear hWW r0
    go_loopg [10] (t.size + 1) (fun g i wr => ∃ q : Nat, q ≤ t.size ∧ g = t.size - q + 1 ∧ i = .int .i64 (q : Int) ∧ Hid (∀ i, i < q → ¬ (On A i ∧ SomeBeg ((bytesOf t).drop i) L)) ∧ Fr (fun _ => False) W2 wr)
    case atStart => exact ⟨0, by omega, by omega, rfl, Lib.hid (fun i h => by omega), Fr.refl _ W2⟩
    case round =>
      obtain ⟨q, hq, rfl, rfl, hno, hF⟩ := hrel
      by_cases hlt : q < t.size
      · have e1 : (q : Int) < (t.size : Int) := by omega
        have eb : (q : Int) < (t.size : Int) + 1 := by omega
        have eb0 : (0 : Int) ≤ (q : Int) := by omega
        have eb1 : (q : Int) ≤ (t.size : Int) := by omega
        have ewq : IntKind.i64.wrap (q : Int) = (q : Int) := IntWalk.i64_in _ (by omega)
        obtain ⟨x, hx⟩ : ∃ x, A[q]? = some x := ⟨_, List.getElem?_eq_getElem (by rw [HI.out.2.2.2.2.1]; omega)⟩
        have r1 : wr.drew.cell? ⟨b1, o1 + q, none⟩ = some (.bool x) := (HI.out.2.1.trans hF (fun _ _ h => h)).drew.cell (HI.out.2.2.2.2.2.1 q x hx) (fun h => h)
        have hBd := (HI.out.2.2.1.fr hF (fun h => h)).drew
        have HX := Lib.hid (And.intro hx hF)
        clear hx hF
        go_wp2_with fail
        cases x with
        | false =>
          refine wp_region_seqV (fun w' => w'.cell? ⟨b1, o1 + q, none⟩ = some (.bool false) ∧ Blk w' w.heap.size [.int .i64 4, .slice uA un uc, .int .i64 um, .int .i64 ux, .bool false, .bool false, .slice vA vn vc] 25) (fun i => ![6, 10].contains i) (fun i => ![3, 5, 6, 10].contains i) (fun i => false) [0, 1, 2, 3, 4, 5, 7, 8, 9, 6, 10, 11] (by kernel_rfl) (by kernel_rfl) (fun c a d v w h => by cases d <;> exact h) ⟨r1, hBd⟩ ?_
          iterate 3 (apply seqV_pure (ho := rfl) (hr := rfl) (hg := rfl); (intro w'; go_simp; rfl))
          iterate 1 (apply seqV_read (ho := rfl) (hr := rfl) (hp := rfl) (hg := rfl); (rintro w' ⟨q1, q2⟩; clear q2; go_simp; rfl))
          iterate 1 (apply seqV_pure (ho := rfl) (hr := rfl) (hg := rfl); (intro w'; go_simp; rfl))
          go_simp
          iterate 4 (apply seqV_skip (ho := rfl) (hr := rfl) (hw := by kernel_rfl))
          go_simp
          refine seqV_do rfl rfl fun K hK => ?_
          go_simp
          refine hK _ _ (fun _ => ⟨r1, hBd⟩) ?_
          clear hK K
          refine seqV_do rfl rfl fun K hK => ?_
          go_simp
          refine hK _ _ (fun _ => ⟨r1, hBd⟩) ?_
          clear hK K
          go_simp
          iterate 1 (apply seqV_pure (ho := rfl) (hr := rfl) (hg := rfl); (intro w'; go_simp; rfl))
          go_simp
          unfold seqV
          clear r1 hBd
          go_wp2_with fail
          go_roundg (t.size - (q + 1) + 1)
          case measure => omega
          case rel => exact ⟨q + 1, by omega, rfl, by simp, Lib.hid (fun i hi h => by
            by_cases e : i = q
            · subst e
              have h1 := h.1
              have h2 := HX.out.1
              unfold On at h1
              rw [h2] at h1
              simp at h1
            · exact hno.out i (by omega) h), HX.out.2.drew⟩
        | true =>
          have hrg := ranges_spec (hvH.out.fr (HI.out.2.1.trans HX.out.2 (fun _ _ h => h)).drew (fun k cs t hk ht h => h)) (by simp [opOf])
          rw [← hL.out] at hrg
          refine wp_region_seqV (fun w' => w'.cell? ⟨b1, o1 + q, none⟩ = some (.bool true) ∧ Blk w' w.heap.size [.int .i64 4, .slice uA un uc, .int .i64 um, .int .i64 ux, .bool false, .bool false, .slice vA vn vc] 25) (fun i => ![6, 10].contains i) (fun i => ![3, 5, 6, 10].contains i) (fun i => false) [0, 1, 2, 3, 4, 5, 7, 8, 9, 6, 10, 11] (by kernel_rfl) (by kernel_rfl) (fun c a d v w h => by cases d <;> exact h) ⟨r1, hBd⟩ ?_
          iterate 3 (apply seqV_pure (ho := rfl) (hr := rfl) (hg := rfl); (intro w'; go_simp; rfl))
          iterate 1 (apply seqV_read (ho := rfl) (hr := rfl) (hp := rfl) (hg := rfl); (rintro w' ⟨q1, q2⟩; clear q2; go_simp; rfl))
          iterate 1 (apply seqV_pure (ho := rfl) (hr := rfl) (hg := rfl); (intro w'; go_simp; rfl))
          go_simp
          iterate 1 (apply seqV_readG (ho := rfl) (hr := rfl) (hp := rfl) (hw := by kernel_rfl); (rintro w' ⟨q1, q2⟩; have r0 := q2.cell 0 rfl; have r1 := q2.cell 1 rfl; have r2 := q2.cell 2 rfl; have r3 := q2.cell 3 rfl; have r4 := q2.cell 4 rfl; have r5 := q2.cell 5 rfl; have r6 := q2.cell 6 rfl; clear q1 q2; go_simp; rfl))
          go_simp
          iterate 3 (apply seqV_pureG (ho := rfl) (hr := rfl) (hw := by kernel_rfl); (intro w'; go_simp; rfl))
          go_simp
          refine seqV_do rfl rfl fun K hK => ?_
          go_simp
          refine hrg.mono ?_
          rintro e w4 ⟨v', rfl, hru, hf4⟩
          clear hrg
          have r14 := hf4.cell r1 (fun h => h)
          have hB4 := hBd.fr hf4 (fun h => h)
          refine hK _ _ (fun _ => ⟨r14, hB4⟩) ?_
          clear hK K
          have hbg := begins_calls hru (by omega) hokH.out (t.extract q t.size) (by rw [ByteArray.size_extract]; omega) (by rw [ByteArray.size_extract]; omega)
          refine seqV_do rfl rfl fun K hK => ?_
          go_simp
          refine hbg.mono ?_
          rintro e w5 ⟨z, rfl, hz, hf5⟩
          clear hbg
          refine hK _ _ (fun _ => ⟨hf5.cell r14 (fun h => h), hB4.fr hf5 (fun h => h)⟩) ?_
          clear hK K
          go_simp
          iterate 1 (apply seqV_pure (ho := rfl) (hr := rfl) (hg := rfl); (intro w'; go_simp; rfl))
          go_simp
          unfold seqV
          have hdr : bytesOf (t.extract q t.size) = (bytesOf t).drop q := by rw [bytes_ext, List.take_of_length_le (by rw [bytes_len]; exact Nat.le_refl _)]
          rw [hdr] at hz
          have HZ := Lib.hid (And.intro hz ((HX.out.2.drew.trans hf4 (fun _ _ h => h)).trans hf5 (fun _ _ h => h)))
          clear hz hdr r1 hBd r14 hB4 hf4 hf5 hru
          cases z with
          | true =>
            go_wp2_with fail
            go_ret
            refine ⟨true, rfl, ⟨fun _ => ?_, fun _ => rfl⟩, HI.out.2.1.trans HZ.out.2 (fun _ _ h => h)⟩
            have h := (begs_class (L := L) hNn.out).2 ⟨q, by rw [bytes_len]; exact hlt, HX.out.1, HZ.out.1.1 (by trivial)⟩
            exact (begs_mono (fun w => (by rw [hL.out]; exact lang_class (by simp [opOf]) w : Lang (.cls l) w ↔ ClassW L w)) (fun _ _ => Iff.rfl)).2 h
          | false =>
            go_wp2_with fail
            go_roundg (t.size - (q + 1) + 1)
            case measure => omega
            case rel => exact ⟨q + 1, by omega, rfl, by simp, Lib.hid (fun i hi h => by
              by_cases e : i = q
              · subst e
                have := HZ.out.1.2 h.2
                simp at this
              · exact hno.out i (by omega) h), HZ.out.2⟩
      · obtain rfl : q = t.size := by omega
        have e1 : ¬ ((t.size : Int) < (t.size : Int)) := by omega
        have HX := Lib.hid hF
        clear hF
        go_wp2_with fail
        go_ret
        refine ⟨false, rfl, ⟨fun e => by simp at e, fun e => ?_⟩, HI.out.2.1.trans HX.out (fun _ _ h => h)⟩
        have e' := (begs_mono (fun w => (by rw [hL.out]; exact lang_class (by simp [opOf]) w : Lang (.cls l) w ↔ ClassW L w)) (fun _ _ => Iff.rfl)).1 e
        obtain ⟨i, h1, h2, h3⟩ := (begs_class (L := L) hNn.out).1 e'
        rw [bytes_len] at h1
        exact absurd ⟨h2, h3⟩ (hno.out i h1)

set_option maxRecDepth 100000 in
set_option maxHeartbeats 4000000 in
theorem bg_any : BgC .any := by
  intro w v fv t A hv hA hl ht
  have hwf : WfR .any := by simp only [WfR]
  have hcl : (pairsOf .any).length ≤ 1000 := by simp [pairsOf]
  have hok : ∀ q, q ∈ pairsOf .any → okRange q.1 q.2 := by simp [pairsOf, okRange, okRune]
  have hv0 := hv
  obtain ⟨uA, un, uc, um, ux, vA, vn, vc, rfl⟩ := hv.form
  have hvH := Lib.hid hv0
  clear hv hv0
  simp only [opOf] at hvH ⊢
  obtain ⟨L, hL⟩ : ∃ L, Hid (L = pairsOf .any) := ⟨_, Lib.hid rfl⟩
  rw [← hL.out] at hcl hok
  have hokH := Lib.hid hok
  clear hok
  have hsome : Hid (∃ w, Lang .any w) := Lib.hid (by first | exact lang_some _ hwf | exact lang_some _ (by simp only [WfR]))
  have hA0 := hA
  obtain ⟨b1, o1, c1, cs1, rfl, hcA, hbA, hcellA⟩ := hA0
  rw [hl] at hA ⊢
  have hF1 : Fr (fun _ => False) w (w.alloc (.cells #[.int .i64 6, .slice uA un uc, .int .i64 um, .int .i64 ux, .bool false, .bool false, .slice vA vn vc] 25)) := (Fr.refl _ w).alloc _
  have hB0 : Blk (w.alloc (.cells #[.int .i64 6, .slice uA un uc, .int .i64 um, .int .i64 ux, .bool false, .bool false, .slice vA vn vc] 25)) w.heap.size [.int .i64 6, .slice uA un uc, .int .i64 um, .int .i64 ux, .bool false, .bool false, .slice vA vn vc] 25 := Blk.new w [_, _, _, _, _, _, _] 25
  have hA1 := hA.fr hF1 (fun _ _ _ h => h)
  have hnone := none_spec hA1 (by rw [hl]; omega)
  obtain ⟨x, hx⟩ : ∃ x, A[t.size]? = some x := ⟨_, List.getElem?_eq_getElem (by omega)⟩
  have r0 := hF1.cell (hcellA t.size x hx) (fun h => h)
  have HI := Lib.hid (And.intro hA1 (And.intro hF1 (And.intro hB0 (And.intro hx (And.intro hl (And.intro hcellA hbA))))))
  clear hA hA1 hF1 hB0 hbA hcellA hcA hx hl
  go_enter Tryd.func23, Tryd.ntmps23
  go_wp2_with fail
  refine hnone.mono ?_
  rintro e w2 ⟨rfl, rfl⟩
  clear hnone
  by_cases hall : A.all (!·) = true
  · rw [hall]
    have hH := Lib.hid hall
    clear hall
    go_wp2_with fail
    go_ret
    exact ⟨false, rfl, ⟨fun e => by simp at e, fun e => absurd e (no_begs hH.out)⟩, HI.out.2.1⟩
  have hall' : A.all (!·) = false := by simpa using hall
  rw [hall']
  clear hall hall'
  cases x with
  | true =>
    go_wp2_with fail
    go_ret
    exact ⟨true, rfl, ⟨fun _ => begs_end (show On A (bytesOf t).length by rw [bytes_len]; exact HI.out.2.2.2.1) hsome.out, fun _ => rfl⟩, HI.out.2.1⟩
  | false =>
    have hNn : Hid (¬ On A (bytesOf t).length) := Lib.hid (by rw [bytes_len]; intro h; have h2 := HI.out.2.2.2.1; unfold On at h; rw [h2] at h; simp at h)
    go_wp2_with fail
    generalize hWW : (w.alloc (.cells #[.int .i64 6, .slice uA un uc, .int .i64 um, .int .i64 ux, .bool false, .bool false, .slice vA vn vc] 25)) = W2 at *
    clear hWW r0
    go_loopg [10] (t.size + 1) (fun g i wr => ∃ q : Nat, q ≤ t.size ∧ g = t.size - q + 1 ∧ i = .int .i64 (q : Int) ∧ Hid (∀ i, i < q → ¬ (On A i ∧ SomeBeg ((bytesOf t).drop i) L)) ∧ Fr (fun _ => False) W2 wr)
    case atStart => exact ⟨0, by omega, by omega, rfl, Lib.hid (fun i h => by omega), Fr.refl _ W2⟩
    case round =>
      obtain ⟨q, hq, rfl, rfl, hno, hF⟩ := hrel
      by_cases hlt : q < t.size
      · have e1 : (q : Int) < (t.size : Int) := by omega
        have eb : (q : Int) < (t.size : Int) + 1 := by omega
        have eb0 : (0 : Int) ≤ (q : Int) := by omega
        have eb1 : (q : Int) ≤ (t.size : Int) := by omega
        have ewq : IntKind.i64.wrap (q : Int) = (q : Int) := IntWalk.i64_in _ (by omega)
        obtain ⟨x, hx⟩ : ∃ x, A[q]? = some x := ⟨_, List.getElem?_eq_getElem (by rw [HI.out.2.2.2.2.1]; omega)⟩
        have r1 : wr.drew.cell? ⟨b1, o1 + q, none⟩ = some (.bool x) := (HI.out.2.1.trans hF (fun _ _ h => h)).drew.cell (HI.out.2.2.2.2.2.1 q x hx) (fun h => h)
        have hBd := (HI.out.2.2.1.fr hF (fun h => h)).drew
        have HX := Lib.hid (And.intro hx hF)
        clear hx hF
        go_wp2_with fail
        cases x with
        | false =>
          refine wp_region_seqV (fun w' => w'.cell? ⟨b1, o1 + q, none⟩ = some (.bool false) ∧ Blk w' w.heap.size [.int .i64 6, .slice uA un uc, .int .i64 um, .int .i64 ux, .bool false, .bool false, .slice vA vn vc] 25) (fun i => ![6, 10].contains i) (fun i => ![3, 5, 6, 10].contains i) (fun i => false) [0, 1, 2, 3, 4, 5, 7, 8, 9, 6, 10, 11] (by kernel_rfl) (by kernel_rfl) (fun c a d v w h => by cases d <;> exact h) ⟨r1, hBd⟩ ?_
          iterate 3 (apply seqV_pure (ho := rfl) (hr := rfl) (hg := rfl); (intro w'; go_simp; rfl))
          iterate 1 (apply seqV_read (ho := rfl) (hr := rfl) (hp := rfl) (hg := rfl); (rintro w' ⟨q1, q2⟩; clear q2; go_simp; rfl))
          iterate 1 (apply seqV_pure (ho := rfl) (hr := rfl) (hg := rfl); (intro w'; go_simp; rfl))
          go_simp
          iterate 4 (apply seqV_skip (ho := rfl) (hr := rfl) (hw := by kernel_rfl))
          go_simp
          refine seqV_do rfl rfl fun K hK => ?_
          go_simp
          refine hK _ _ (fun _ => ⟨r1, hBd⟩) ?_
          clear hK K
          refine seqV_do rfl rfl fun K hK => ?_
          go_simp
          refine hK _ _ (fun _ => ⟨r1, hBd⟩) ?_
          clear hK K
          go_simp
          iterate 1 (apply seqV_pure (ho := rfl) (hr := rfl) (hg := rfl); (intro w'; go_simp; rfl))
          go_simp
          unfold seqV
          clear r1 hBd
          go_wp2_with fail
          go_roundg (t.size - (q + 1) + 1)
          case measure => omega
          case rel => exact ⟨q + 1, by omega, rfl, by simp, Lib.hid (fun i hi h => by
            by_cases e : i = q
            · subst e
              have h1 := h.1
              have h2 := HX.out.1
              unfold On at h1
              rw [h2] at h1
              simp at h1
            · exact hno.out i (by omega) h), HX.out.2.drew⟩
        | true =>
          have hrg := ranges_spec (hvH.out.fr (HI.out.2.1.trans HX.out.2 (fun _ _ h => h)).drew (fun k cs t hk ht h => h)) (by simp [opOf])
          rw [← hL.out] at hrg
          refine wp_region_seqV (fun w' => w'.cell? ⟨b1, o1 + q, none⟩ = some (.bool true) ∧ Blk w' w.heap.size [.int .i64 6, .slice uA un uc, .int .i64 um, .int .i64 ux, .bool false, .bool false, .slice vA vn vc] 25) (fun i => ![6, 10].contains i) (fun i => ![3, 5, 6, 10].contains i) (fun i => false) [0, 1, 2, 3, 4, 5, 7, 8, 9, 6, 10, 11] (by kernel_rfl) (by kernel_rfl) (fun c a d v w h => by cases d <;> exact h) ⟨r1, hBd⟩ ?_
          iterate 3 (apply seqV_pure (ho := rfl) (hr := rfl) (hg := rfl); (intro w'; go_simp; rfl))
          iterate 1 (apply seqV_read (ho := rfl) (hr := rfl) (hp := rfl) (hg := rfl); (rintro w' ⟨q1, q2⟩; clear q2; go_simp; rfl))
          iterate 1 (apply seqV_pure (ho := rfl) (hr := rfl) (hg := rfl); (intro w'; go_simp; rfl))
          go_simp
          iterate 1 (apply seqV_readG (ho := rfl) (hr := rfl) (hp := rfl) (hw := by kernel_rfl); (rintro w' ⟨q1, q2⟩; have r0 := q2.cell 0 rfl; have r1 := q2.cell 1 rfl; have r2 := q2.cell 2 rfl; have r3 := q2.cell 3 rfl; have r4 := q2.cell 4 rfl; have r5 := q2.cell 5 rfl; have r6 := q2.cell 6 rfl; clear q1 q2; go_simp; rfl))
          go_simp
          iterate 3 (apply seqV_pureG (ho := rfl) (hr := rfl) (hw := by kernel_rfl); (intro w'; go_simp; rfl))
          go_simp
          refine seqV_do rfl rfl fun K hK => ?_
          go_simp
          refine hrg.mono ?_
          rintro e w4 ⟨v', rfl, hru, hf4⟩
          clear hrg
          have r14 := hf4.cell r1 (fun h => h)
          have hB4 := hBd.fr hf4 (fun h => h)
          refine hK _ _ (fun _ => ⟨r14, hB4⟩) ?_
          clear hK K
          have hbg := begins_calls hru (by omega) hokH.out (t.extract q t.size) (by rw [ByteArray.size_extract]; omega) (by rw [ByteArray.size_extract]; omega)
          refine seqV_do rfl rfl fun K hK => ?_
          go_simp
          refine hbg.mono ?_
          rintro e w5 ⟨z, rfl, hz, hf5⟩
          clear hbg
          refine hK _ _ (fun _ => ⟨hf5.cell r14 (fun h => h), hB4.fr hf5 (fun h => h)⟩) ?_
          clear hK K
          go_simp
          iterate 1 (apply seqV_pure (ho := rfl) (hr := rfl) (hg := rfl); (intro w'; go_simp; rfl))
          go_simp
          unfold seqV
          have hdr : bytesOf (t.extract q t.size) = (bytesOf t).drop q := by rw [bytes_ext, List.take_of_length_le (by rw [bytes_len]; exact Nat.le_refl _)]
          rw [hdr] at hz
          have HZ := Lib.hid (And.intro hz ((HX.out.2.drew.trans hf4 (fun _ _ h => h)).trans hf5 (fun _ _ h => h)))
          clear hz hdr r1 hBd r14 hB4 hf4 hf5 hru
          cases z with
          | true =>
            go_wp2_with fail
            go_ret
            refine ⟨true, rfl, ⟨fun _ => ?_, fun _ => rfl⟩, HI.out.2.1.trans HZ.out.2 (fun _ _ h => h)⟩
            have h := (begs_class (L := L) hNn.out).2 ⟨q, by rw [bytes_len]; exact hlt, HX.out.1, HZ.out.1.1 (by trivial)⟩
            exact (begs_mono (fun w => (by rw [hL.out]; exact lang_class (by simp [opOf]) w : Lang .any w ↔ ClassW L w)) (fun _ _ => Iff.rfl)).2 h
          | false =>
            go_wp2_with fail
            go_roundg (t.size - (q + 1) + 1)
            case measure => omega
            case rel => exact ⟨q + 1, by omega, rfl, by simp, Lib.hid (fun i hi h => by
              by_cases e : i = q
              · subst e
                have := HZ.out.1.2 h.2
                simp at this
              · exact hno.out i (by omega) h), HZ.out.2⟩
      · obtain rfl : q = t.size := by omega
        have e1 : ¬ ((t.size : Int) < (t.size : Int)) := by omega
        have HX := Lib.hid hF
        clear hF
        go_wp2_with fail
        go_ret
        refine ⟨false, rfl, ⟨fun e => by simp at e, fun e => ?_⟩, HI.out.2.1.trans HX.out (fun _ _ h => h)⟩
        have e' := (begs_mono (fun w => (by rw [hL.out]; exact lang_class (by simp [opOf]) w : Lang .any w ↔ ClassW L w)) (fun _ _ => Iff.rfl)).1 e
        obtain ⟨i, h1, h2, h3⟩ := (begs_class (L := L) hNn.out).1 e'
        rw [bytes_len] at h1
        exact absurd ⟨h2, h3⟩ (hno.out i h1)

set_option maxRecDepth 100000 in
set_option maxHeartbeats 4000000 in
theorem bg_anyNl : BgC .anyNl := by
  intro w v fv t A hv hA hl ht
  have hwf : WfR .anyNl := by simp only [WfR]
  have hcl : (pairsOf .anyNl).length ≤ 1000 := by simp [pairsOf]
  have hok : ∀ q, q ∈ pairsOf .anyNl → okRange q.1 q.2 := by simp [pairsOf, okRange, okRune]
  have hv0 := hv
  obtain ⟨uA, un, uc, um, ux, vA, vn, vc, rfl⟩ := hv.form
  have hvH := Lib.hid hv0
  clear hv hv0
  simp only [opOf] at hvH ⊢
  obtain ⟨L, hL⟩ : ∃ L, Hid (L = pairsOf .anyNl) := ⟨_, Lib.hid rfl⟩
  rw [← hL.out] at hcl hok
  have hokH := Lib.hid hok
  clear hok
  have hsome : Hid (∃ w, Lang .anyNl w) := Lib.hid (by first | exact lang_some _ hwf | exact lang_some _ (by simp only [WfR]))
  have hA0 := hA
  obtain ⟨b1, o1, c1, cs1, rfl, hcA, hbA, hcellA⟩ := hA0
  rw [hl] at hA ⊢
  have hF1 : Fr (fun _ => False) w (w.alloc (.cells #[.int .i64 5, .slice uA un uc, .int .i64 um, .int .i64 ux, .bool false, .bool false, .slice vA vn vc] 25)) := (Fr.refl _ w).alloc _
  have hB0 : Blk (w.alloc (.cells #[.int .i64 5, .slice uA un uc, .int .i64 um, .int .i64 ux, .bool false, .bool false, .slice vA vn vc] 25)) w.heap.size [.int .i64 5, .slice uA un uc, .int .i64 um, .int .i64 ux, .bool false, .bool false, .slice vA vn vc] 25 := Blk.new w [_, _, _, _, _, _, _] 25
  have hA1 := hA.fr hF1 (fun _ _ _ h => h)
  have hnone := none_spec hA1 (by rw [hl]; omega)
  obtain ⟨x, hx⟩ : ∃ x, A[t.size]? = some x := ⟨_, List.getElem?_eq_getElem (by omega)⟩
  have r0 := hF1.cell (hcellA t.size x hx) (fun h => h)
  have HI := Lib.hid (And.intro hA1 (And.intro hF1 (And.intro hB0 (And.intro hx (And.intro hl (And.intro hcellA hbA))))))
  clear hA hA1 hF1 hB0 hbA hcellA hcA hx hl
  go_enter Tryd.func23, Tryd.ntmps23
  go_wp2_with fail
  refine hnone.mono ?_
  rintro e w2 ⟨rfl, rfl⟩
  clear hnone
  by_cases hall : A.all (!·) = true
  · rw [hall]
    have hH := Lib.hid hall
    clear hall
    go_wp2_with fail
    go_ret
    exact ⟨false, rfl, ⟨fun e => by simp at e, fun e => absurd e (no_begs hH.out)⟩, HI.out.2.1⟩
  have hall' : A.all (!·) = false := by simpa using hall
  rw [hall']
  clear hall hall'
  cases x with
  | true =>
    go_wp2_with fail
    go_ret
    exact ⟨true, rfl, ⟨fun _ => begs_end (show On A (bytesOf t).length by rw [bytes_len]; exact HI.out.2.2.2.1) hsome.out, fun _ => rfl⟩, HI.out.2.1⟩
  | false =>
    have hNn : Hid (¬ On A (bytesOf t).length) := Lib.hid (by rw [bytes_len]; intro h; have h2 := HI.out.2.2.2.1; unfold On at h; rw [h2] at h; simp at h)
    go_wp2_with fail
    generalize hWW : (w.alloc (.cells #[.int .i64 5, .slice uA un uc, .int .i64 um, .int .i64 ux, .bool false, .bool false, .slice vA vn vc] 25)) = W2 at *
    clear hWW r0
    go_loopg [10] (t.size + 1) (fun g i wr => ∃ q : Nat, q ≤ t.size ∧ g = t.size - q + 1 ∧ i = .int .i64 (q : Int) ∧ Hid (∀ i, i < q → ¬ (On A i ∧ SomeBeg ((bytesOf t).drop i) L)) ∧ Fr (fun _ => False) W2 wr)
    case atStart => exact ⟨0, by omega, by omega, rfl, Lib.hid (fun i h => by omega), Fr.refl _ W2⟩
    case round =>
      obtain ⟨q, hq, rfl, rfl, hno, hF⟩ := hrel
      by_cases hlt : q < t.size
      · have e1 : (q : Int) < (t.size : Int) := by omega
        have eb : (q : Int) < (t.size : Int) + 1 := by omega
        have eb0 : (0 : Int) ≤ (q : Int) := by omega
        have eb1 : (q : Int) ≤ (t.size : Int) := by omega
        have ewq : IntKind.i64.wrap (q : Int) = (q : Int) := IntWalk.i64_in _ (by omega)
        obtain ⟨x, hx⟩ : ∃ x, A[q]? = some x := ⟨_, List.getElem?_eq_getElem (by rw [HI.out.2.2.2.2.1]; omega)⟩
        have r1 : wr.drew.cell? ⟨b1, o1 + q, none⟩ = some (.bool x) := (HI.out.2.1.trans hF (fun _ _ h => h)).drew.cell (HI.out.2.2.2.2.2.1 q x hx) (fun h => h)
        have hBd := (HI.out.2.2.1.fr hF (fun h => h)).drew
        have HX := Lib.hid (And.intro hx hF)
        clear hx hF
        go_wp2_with fail
        cases x with
        | false =>
          refine wp_region_seqV (fun w' => w'.cell? ⟨b1, o1 + q, none⟩ = some (.bool false) ∧ Blk w' w.heap.size [.int .i64 5, .slice uA un uc, .int .i64 um, .int .i64 ux, .bool false, .bool false, .slice vA vn vc] 25) (fun i => ![6, 10].contains i) (fun i => ![3, 5, 6, 10].contains i) (fun i => false) [0, 1, 2, 3, 4, 5, 7, 8, 9, 6, 10, 11] (by kernel_rfl) (by kernel_rfl) (fun c a d v w h => by cases d <;> exact h) ⟨r1, hBd⟩ ?_
          iterate 3 (apply seqV_pure (ho := rfl) (hr := rfl) (hg := rfl); (intro w'; go_simp; rfl))
          iterate 1 (apply seqV_read (ho := rfl) (hr := rfl) (hp := rfl) (hg := rfl); (rintro w' ⟨q1, q2⟩; clear q2; go_simp; rfl))
          iterate 1 (apply seqV_pure (ho := rfl) (hr := rfl) (hg := rfl); (intro w'; go_simp; rfl))
          go_simp
          iterate 4 (apply seqV_skip (ho := rfl) (hr := rfl) (hw := by kernel_rfl))
          go_simp
          refine seqV_do rfl rfl fun K hK => ?_
          go_simp
          refine hK _ _ (fun _ => ⟨r1, hBd⟩) ?_
          clear hK K
          refine seqV_do rfl rfl fun K hK => ?_
          go_simp
          refine hK _ _ (fun _ => ⟨r1, hBd⟩) ?_
          clear hK K
          go_simp
          iterate 1 (apply seqV_pure (ho := rfl) (hr := rfl) (hg := rfl); (intro w'; go_simp; rfl))
          go_simp
          unfold seqV
          clear r1 hBd
          go_wp2_with fail
          go_roundg (t.size - (q + 1) + 1)
          case measure => omega
          case rel => exact ⟨q + 1, by omega, rfl, by simp, Lib.hid (fun i hi h => by
            by_cases e : i = q
            · subst e
              have h1 := h.1
              have h2 := HX.out.1
              unfold On at h1
              rw [h2] at h1
              simp at h1
            · exact hno.out i (by omega) h), HX.out.2.drew⟩
        | true =>
          have hrg := ranges_spec (hvH.out.fr (HI.out.2.1.trans HX.out.2 (fun _ _ h => h)).drew (fun k cs t hk ht h => h)) (by simp [opOf])
          rw [← hL.out] at hrg
          refine wp_region_seqV (fun w' => w'.cell? ⟨b1, o1 + q, none⟩ = some (.bool true) ∧ Blk w' w.heap.size [.int .i64 5, .slice uA un uc, .int .i64 um, .int .i64 ux, .bool false, .bool false, .slice vA vn vc] 25) (fun i => ![6, 10].contains i) (fun i => ![3, 5, 6, 10].contains i) (fun i => false) [0, 1, 2, 3, 4, 5, 7, 8, 9, 6, 10, 11] (by kernel_rfl) (by kernel_rfl) (fun c a d v w h => by cases d <;> exact h) ⟨r1, hBd⟩ ?_
          iterate 3 (apply seqV_pure (ho := rfl) (hr := rfl) (hg := rfl); (intro w'; go_simp; rfl))
          iterate 1 (apply seqV_read (ho := rfl) (hr := rfl) (hp := rfl) (hg := rfl); (rintro w' ⟨q1, q2⟩; clear q2; go_simp; rfl))
          iterate 1 (apply seqV_pure (ho := rfl) (hr := rfl) (hg := rfl); (intro w'; go_simp; rfl))
          go_simp
          iterate 1 (apply seqV_readG (ho := rfl) (hr := rfl) (hp := rfl) (hw := by kernel_rfl); (rintro w' ⟨q1, q2⟩; have r0 := q2.cell 0 rfl; have r1 := q2.cell 1 rfl; have r2 := q2.cell 2 rfl; have r3 := q2.cell 3 rfl; have r4 := q2.cell 4 rfl; have r5 := q2.cell 5 rfl; have r6 := q2.cell 6 rfl; clear q1 q2; go_simp; rfl))
          go_simp
          iterate 3 (apply seqV_pureG (ho := rfl) (hr := rfl) (hw := by kernel_rfl); (intro w'; go_simp; rfl))
          go_simp
          refine seqV_do rfl rfl fun K hK => ?_
          go_simp
          refine hrg.mono ?_
          rintro e w4 ⟨v', rfl, hru, hf4⟩
          clear hrg
          have r14 := hf4.cell r1 (fun h => h)
          have hB4 := hBd.fr hf4 (fun h => h)
          refine hK _ _ (fun _ => ⟨r14, hB4⟩) ?_
          clear hK K
          have hbg := begins_calls hru (by omega) hokH.out (t.extract q t.size) (by rw [ByteArray.size_extract]; omega) (by rw [ByteArray.size_extract]; omega)
          refine seqV_do rfl rfl fun K hK => ?_
          go_simp
          refine hbg.mono ?_
          rintro e w5 ⟨z, rfl, hz, hf5⟩
          clear hbg
          refine hK _ _ (fun _ => ⟨hf5.cell r14 (fun h => h), hB4.fr hf5 (fun h => h)⟩) ?_
          clear hK K
          go_simp
          iterate 1 (apply seqV_pure (ho := rfl) (hr := rfl) (hg := rfl); (intro w'; go_simp; rfl))
          go_simp
          unfold seqV
          have hdr : bytesOf (t.extract q t.size) = (bytesOf t).drop q := by rw [bytes_ext, List.take_of_length_le (by rw [bytes_len]; exact Nat.le_refl _)]
          rw [hdr] at hz
          have HZ := Lib.hid (And.intro hz ((HX.out.2.drew.trans hf4 (fun _ _ h => h)).trans hf5 (fun _ _ h => h)))
          clear hz hdr r1 hBd r14 hB4 hf4 hf5 hru
          cases z with
          | true =>
            go_wp2_with fail
            go_ret
            refine ⟨true, rfl, ⟨fun _ => ?_, fun _ => rfl⟩, HI.out.2.1.trans HZ.out.2 (fun _ _ h => h)⟩
            have h := (begs_class (L := L) hNn.out).2 ⟨q, by rw [bytes_len]; exact hlt, HX.out.1, HZ.out.1.1 (by trivial)⟩
            exact (begs_mono (fun w => (by rw [hL.out]; exact lang_class (by simp [opOf]) w : Lang .anyNl w ↔ ClassW L w)) (fun _ _ => Iff.rfl)).2 h
          | false =>
            go_wp2_with fail
            go_roundg (t.size - (q + 1) + 1)
            case measure => omega
            case rel => exact ⟨q + 1, by omega, rfl, by simp, Lib.hid (fun i hi h => by
              by_cases e : i = q
              · subst e
                have := HZ.out.1.2 h.2
                simp at this
              · exact hno.out i (by omega) h), HZ.out.2⟩
      · obtain rfl : q = t.size := by omega
        have e1 : ¬ ((t.size : Int) < (t.size : Int)) := by omega
        have HX := Lib.hid hF
        clear hF
        go_wp2_with fail
        go_ret
        refine ⟨false, rfl, ⟨fun e => by simp at e, fun e => ?_⟩, HI.out.2.1.trans HX.out (fun _ _ h => h)⟩
        have e' := (begs_mono (fun w => (by rw [hL.out]; exact lang_class (by simp [opOf]) w : Lang .anyNl w ↔ ClassW L w)) (fun _ _ => Iff.rfl)).1 e
        obtain ⟨i, h1, h2, h3⟩ := (begs_class (L := L) hNn.out).1 e'
        rw [bytes_len] at h1
        exact absurd ⟨h2, h3⟩ (hno.out i h1)
end Go.Proofs.YtjeklnbfpehbeaaDoor

/- 'Begins' at any expression, 'Matches', 'Can', 'zzFits10' and 'fewBytes' of the law's own side. Condition: the expression is right, the text at most 40 bytes. -/
namespace Go.Proofs.YtjeklnbfpehbeaaDoor
open Go.RowKit

/-- 'Begins' at any right expression. -/
theorem begins_of (r : RE) : WfR r → BgC r := by
  have tm : ∀ q r lo hi, WfR q → timesOf q = some (r, lo, hi) → BgC r → BgC q := fun q r lo hi h ht ih => by
    cases hi with
    | none => exact bg_none h ht ih
    | some m => exact bg_some h ht ih
  refine RE.ind (P := fun r => WfR r → BgC r) ?_ ?_ ?_ ?_ ?_ ?_ ?_ ?_ ?_ ?_ ?_ ?_ r
  · intro _; exact bg_emp
  · intro rs h; exact bg_lit rs h
  · intro l h; exact bg_cls l h
  · intro _; exact bg_any
  · intro _; exact bg_anyNl
  · intro l ih h
    have h' := h
    simp only [WfR] at h'
    exact bg_cat l h (fun r hr => ih r hr (WfL_mem h'.2 r hr))
  · intro l ih h
    have h' := h
    simp only [WfR] at h'
    exact bg_alt l h (fun r hr => ih r hr (WfL_mem h'.2.2 r hr))
  · intro r ih h; exact tm _ r 0 none h rfl (ih (lang_times h rfl).2.1)
  · intro r ih h; exact tm _ r 1 none h rfl (ih (lang_times h rfl).2.1)
  · intro r ih h; exact tm _ r 0 (some 1) h rfl (ih (lang_times h rfl).2.1)
  · intro mn mx r ih h; exact tm _ r mn mx h rfl (ih (lang_times h rfl).2.1)
  · intro r ih h
    have h' := h
    simp only [WfR] at h'
    exact bg_cap r h (ih h')

/-- Only the first place. -/
def firstOn (n : Nat) : List Bool := (List.replicate (n + 1) false).set 0 true
theorem on_first (n j : Nat) : On (firstOn n) j ↔ j = 0 := by
  unfold firstOn
  rw [on_set (by simp)]
  constructor
  · rintro (h | h)
    · simp [On, List.getElem?_replicate] at h
    · exact h
  · intro h; exact .inr h
theorem ends_first {L : Words} {bs : List Nat} : Ends L bs (On (firstOn bs.length)) bs.length ↔ L bs := by
  have hc : cutB bs 0 bs.length = bs := by unfold cutB; simp
  constructor
  · rintro ⟨-, i, -, h2, h3⟩
    obtain rfl := (on_first _ i).1 h2
    rw [hc] at h3
    exact h3
  · intro h
    exact ⟨Nat.le_refl _, 0, Nat.zero_le _, (on_first _ 0).2 rfl, by rw [hc]; exact h⟩
theorem begs_first {L : Words} {bs : List Nat} : Begs L bs (On (firstOn bs.length)) ↔ ∃ v, L (bs ++ v) := by
  constructor
  · rintro ⟨i, -, h2, h3⟩
    obtain rfl := (on_first _ i).1 h2
    simpa using h3
  · rintro ⟨v, h⟩
    exact ⟨0, Nat.zero_le _, (on_first _ 0).2 rfl, v, by simpa using h⟩

set_option maxRecDepth 100000 in
set_option maxHeartbeats 2000000 in
theorem matches_calls {w : World} {r : RE} {v : Value} {t : ByteArray} (hwf : WfR r) (hv : ReAt w r v) (ht : t.size ≤ 40) : Calls Tryd.prog 11 #[v, .string t] w fun e w' => BgPost w (Lang r (bytesOf t)) e w' := by
  obtain ⟨uA, un, uc, um, ux, vA, vn, vc, hve⟩ := hv.form
  subst hve
  have hmk : ∀ X : World, (Instr.makeSlice 30 (.int .i64 ((t.size : Int) + 1)) (.int .i64 ((t.size : Int) + 1))).run Tryd.prog X = .ok (.slice (some ⟨X.heap.size, 0, none⟩) (t.size + 1) (t.size + 1)) (X.alloc (.cells ((List.replicate (t.size + 1) false).map Value.bool).toArray 4)) := fun X => run_mk_bool (t.size + 1) (by omega) X
  generalize hC : ((List.replicate (t.size + 1) false).map Value.bool).toArray = C at hmk
  have hD : ((firstOn t.size).map Value.bool).toArray = C.setIfInBounds 0 (.bool true) := by
    rw [← hC]
    apply Array.ext'
    simp [firstOn]
  have hBs : Blk ((w.alloc (.cells #[.int .i64 (opOf r : Int), .slice uA un uc, .int .i64 um, .int .i64 ux, .bool false, .bool false, .slice vA vn vc] 25)).alloc (.cells (C.setIfInBounds 0 (.bool true)) 4)) (w.heap.size + 1) ((firstOn t.size).map Value.bool) 4 := by
    have h := Blk.newAt (w.alloc (.cells #[.int .i64 (opOf r : Int), .slice uA un uc, .int .i64 um, .int .i64 ux, .bool false, .bool false, .slice vA vn vc] 25)) ((firstOn t.size).map Value.bool) 4 (w.heap.size + 1) (by simp)
    rw [hD] at h
    exact h
  have hl1 : (firstOn t.size).length = t.size + 1 := by simp [firstOn]
  have hFp : Fr (fun _ => False) w ((w.alloc (.cells #[.int .i64 (opOf r : Int), .slice uA un uc, .int .i64 um, .int .i64 ux, .bool false, .bool false, .slice vA vn vc] 25)).alloc (.cells (C.setIfInBounds 0 (.bool true)) 4)) := ((Fr.refl _ w).alloc _).alloc _
  have hBp : Blk ((w.alloc (.cells #[.int .i64 (opOf r : Int), .slice uA un uc, .int .i64 um, .int .i64 ux, .bool false, .bool false, .slice vA vn vc] 25)).alloc (.cells (C.setIfInBounds 0 (.bool true)) 4)) w.heap.size [.int .i64 (opOf r : Int), .slice uA un uc, .int .i64 um, .int .i64 ux, .bool false, .bool false, .slice vA vn vc] 25 := (Blk.new w [_, _, _, _, _, _, _] 25).alloc _
  have hset : SetAt ((w.alloc (.cells #[.int .i64 (opOf r : Int), .slice uA un uc, .int .i64 um, .int .i64 ux, .bool false, .bool false, .slice vA vn vc] 25)).alloc (.cells (C.setIfInBounds 0 (.bool true)) 4)) (.slice (some ⟨w.heap.size + 1, 0, none⟩) (t.size + 1) (t.size + 1)) (firstOn t.size) := by
    have := (newset_of (n := t.size + 1) hBs hl1.symm).set
    rw [hl1] at this
    exact this
  have HC := Lib.hid hC
  have hC0 : 0 < C.size := by rw [← hC]; simp
  have hC1 : C[0]? = some (.bool false) := by rw [← hC]; simp
  have hc := reached_calls r hwf _ _ _ t (firstOn t.size) (hv.fr hFp (fun _ _ _ _ _ h => h)) hset hl1 ht
  have y0 := hBp.cell 0 rfl
  have y1 := hBp.cell 1 rfl
  have y2 := hBp.cell 2 rfl
  have y3 := hBp.cell 3 rfl
  have y4 := hBp.cell 4 rfl
  have y5 := hBp.cell 5 rfl
  have y6 := hBp.cell 6 rfl
  have HF := Lib.hid hFp
  clear hBs hFp hBp hset hv hC hD
  go_enter Tryd.func11, Tryd.ntmps11
  go_wp2_with fail
  refine hc.mono ?_
  rintro e w3 ⟨g', c', B', rfl, hB', hl', hE', hf'⟩
  clear hc y0 y1 y2 y3 y4 y5 y6
  have hl2 : B'.length = t.size + 1 := by rw [hl']; simp [firstOn]
  obtain ⟨cs2, hcs2, hcv2⟩ := hB'.blk
  obtain ⟨x, hx⟩ : ∃ x, B'[t.size]? = some x := ⟨_, List.getElem?_eq_getElem (by omega)⟩
  have r0 := hcs2.cell t.size (hcv2 _ x hx)
  rw [hl2]
  have HY := Lib.hid (And.intro hE' (And.intro hf' (And.intro hx hl2)))
  clear hB' hE' hf' hl' hcs2 hcv2 hx hl2
  go_wp2_with fail
  go_ret
  refine ⟨x, rfl, ?_, HF.out.trans HY.out.2.1 (fun _ _ h => h)⟩
  have h1 := HY.out.1 t.size
  rw [show t.size = (bytesOf t).length from (bytes_len t).symm, ends_first, bytes_len] at h1
  rw [← h1]
  unfold On
  rw [HY.out.2.2.1]
  simp

set_option maxRecDepth 100000 in
set_option maxHeartbeats 2000000 in
theorem can_calls {w : World} {r : RE} {v : Value} {t : ByteArray} (hwf : WfR r) (hv : ReAt w r v) (ht : t.size ≤ 40) : Calls Tryd.prog 12 #[v, .string t] w fun e w' => BgPost w (∃ v, Lang r (bytesOf t ++ v)) e w' := by
  obtain ⟨uA, un, uc, um, ux, vA, vn, vc, hve⟩ := hv.form
  subst hve
  have hmk : ∀ X : World, (Instr.makeSlice 30 (.int .i64 ((t.size : Int) + 1)) (.int .i64 ((t.size : Int) + 1))).run Tryd.prog X = .ok (.slice (some ⟨X.heap.size, 0, none⟩) (t.size + 1) (t.size + 1)) (X.alloc (.cells ((List.replicate (t.size + 1) false).map Value.bool).toArray 4)) := fun X => run_mk_bool (t.size + 1) (by omega) X
  generalize hC : ((List.replicate (t.size + 1) false).map Value.bool).toArray = C at hmk
  have hD : ((firstOn t.size).map Value.bool).toArray = C.setIfInBounds 0 (.bool true) := by
    rw [← hC]
    apply Array.ext'
    simp [firstOn]
  have hBs : Blk ((w.alloc (.cells #[.int .i64 (opOf r : Int), .slice uA un uc, .int .i64 um, .int .i64 ux, .bool false, .bool false, .slice vA vn vc] 25)).alloc (.cells (C.setIfInBounds 0 (.bool true)) 4)) (w.heap.size + 1) ((firstOn t.size).map Value.bool) 4 := by
    have h := Blk.newAt (w.alloc (.cells #[.int .i64 (opOf r : Int), .slice uA un uc, .int .i64 um, .int .i64 ux, .bool false, .bool false, .slice vA vn vc] 25)) ((firstOn t.size).map Value.bool) 4 (w.heap.size + 1) (by simp)
    rw [hD] at h
    exact h
  have hl1 : (firstOn t.size).length = t.size + 1 := by simp [firstOn]
  have hFp : Fr (fun _ => False) w ((w.alloc (.cells #[.int .i64 (opOf r : Int), .slice uA un uc, .int .i64 um, .int .i64 ux, .bool false, .bool false, .slice vA vn vc] 25)).alloc (.cells (C.setIfInBounds 0 (.bool true)) 4)) := ((Fr.refl _ w).alloc _).alloc _
  have hBp : Blk ((w.alloc (.cells #[.int .i64 (opOf r : Int), .slice uA un uc, .int .i64 um, .int .i64 ux, .bool false, .bool false, .slice vA vn vc] 25)).alloc (.cells (C.setIfInBounds 0 (.bool true)) 4)) w.heap.size [.int .i64 (opOf r : Int), .slice uA un uc, .int .i64 um, .int .i64 ux, .bool false, .bool false, .slice vA vn vc] 25 := (Blk.new w [_, _, _, _, _, _, _] 25).alloc _
  have hset : SetAt ((w.alloc (.cells #[.int .i64 (opOf r : Int), .slice uA un uc, .int .i64 um, .int .i64 ux, .bool false, .bool false, .slice vA vn vc] 25)).alloc (.cells (C.setIfInBounds 0 (.bool true)) 4)) (.slice (some ⟨w.heap.size + 1, 0, none⟩) (t.size + 1) (t.size + 1)) (firstOn t.size) := by
    have := (newset_of (n := t.size + 1) hBs hl1.symm).set
    rw [hl1] at this
    exact this
  have HC := Lib.hid hC
  have hC0 : 0 < C.size := by rw [← hC]; simp
  have hC1 : C[0]? = some (.bool false) := by rw [← hC]; simp
  have hc := begins_of r hwf _ _ _ t (firstOn t.size) (hv.fr hFp (fun _ _ _ _ _ h => h)) hset hl1 ht
  have y0 := hBp.cell 0 rfl
  have y1 := hBp.cell 1 rfl
  have y2 := hBp.cell 2 rfl
  have y3 := hBp.cell 3 rfl
  have y4 := hBp.cell 4 rfl
  have y5 := hBp.cell 5 rfl
  have y6 := hBp.cell 6 rfl
  have HF := Lib.hid hFp
  clear hBs hFp hBp hset hv hC hD
  go_enter Tryd.func12, Tryd.ntmps12
  go_wp2_with fail
  refine hc.mono ?_
  rintro e w3 ⟨z, rfl, hz, hf⟩
  clear hc y0 y1 y2 y3 y4 y5 y6
  rw [show t.size = (bytesOf t).length from (bytes_len t).symm, begs_first] at hz
  have HY := Lib.hid (And.intro hz hf)
  clear hz hf
  go_wp2_with fail
  go_ret
  exact ⟨z, rfl, HY.out.1, HF.out.trans HY.out.2 (fun _ _ h => h)⟩

set_option maxRecDepth 100000 in
set_option maxHeartbeats 1000000 in
theorem fits_calls (w : World) (x mn mx : Int) (la fo : Bool) (A B : Option Addr) (n c m d : Nat) (hn : n ≤ 2147483647) (hm : m ≤ 2147483647) : Calls Tryd.prog 4 #[.agg #[.int .i64 x, .slice A n c, .int .i64 mn, .int .i64 mx, .bool la, .bool fo, .slice B m d]] w fun e w' => e = .returned (.bool true) ∧ Fr (fun _ => False) w w' := by
  have e1 : ¬ ((2147483647 : Int) < (n : Int)) := by omega
  have e2 : ¬ ((2147483647 : Int) < (m : Int)) := by omega
  go_enter Tryd.func4, Tryd.ntmps4
  go_wp2_with fail
  go_ret
  exact ⟨rfl, (Fr.refl _ w).alloc _⟩
theorem fits_not (w : World) (x mn mx : Int) (la fo : Bool) (A B : Option Addr) (n c m d : Nat) (h : ¬ (n ≤ 2147483647 ∧ m ≤ 2147483647)) : Calls Tryd.prog 4 #[.agg #[.int .i64 x, .slice A n c, .int .i64 mn, .int .i64 mx, .bool la, .bool fo, .slice B m d]] w fun e w' => e = .returned (.bool false) ∧ Fr (fun _ => False) w w' := by
  by_cases hn : n ≤ 2147483647
  · have e1 : ¬ ((2147483647 : Int) < (n : Int)) := by omega
    have e2 : (2147483647 : Int) < (m : Int) := by omega
    go_enter Tryd.func4, Tryd.ntmps4
    go_wp2_with fail
    go_ret
    exact ⟨rfl, (Fr.refl _ w).alloc _⟩
  · have e1 : (2147483647 : Int) < (n : Int) := by omega
    go_enter Tryd.func4, Tryd.ntmps4
    go_wp2_with fail
    go_ret
    exact ⟨rfl, (Fr.refl _ w).alloc _⟩
/-- The text, cut to forty bytes, of fewer than 2^31. -/
theorem few2_calls (w : World) (t : ByteArray) (ht : t.size ≤ 2147483647) : Calls Tryd.prog 7 #[.string t, .int .i64 40] w fun e w' => ∃ s : ByteArray, s.size ≤ 40 ∧ e = .returned (.string s) ∧ w = w' := by
  by_cases h : 40 < t.size
  · have e1 : (40 : Int) < (t.size : Int) := by omega
    go_enter Tryd.func7, Tryd.ntmps7
    go_wp2_with fail
    go_ret
    exact ⟨t.extract 0 40, by rw [ByteArray.size_extract]; omega, rfl, rfl⟩
  · have e1 : (t.size : Int) ≤ 40 := by omega
    go_enter Tryd.func7, Tryd.ntmps7
    go_wp2_with fail
    go_ret
    exact ⟨t, by omega, rfl, rfl⟩
end Go.Proofs.YtjeklnbfpehbeaaDoor

/- What the law needs of the expression: it is narrow, of few places. 'Expression' at five levels. Condition: the value reads four levels deep. -/
namespace Go.Proofs.YtjeklnbfpehbeaaDoor
open Go.RowKit

theorem sum_le_mul {l : List Nat} {b : Nat} (h : ∀ x, x ∈ l → x ≤ b) : l.sum ≤ l.length * b := by
  induction l with
  | nil => simp
  | cons a l ih =>
    have h1 := h a (by simp)
    have h2 := ih (fun x hx => h x (by simp [hx]))
    simp only [List.sum_cons, List.length_cons, Nat.add_mul, Nat.one_mul]
    omega
/-- How many places an expression of few levels has at most. -/
theorem plc_le (r : RE) : ∀ d, Shp r d → plc r ≤ 124 * 6 ^ d := by
  have one : ∀ d, 124 ≤ 124 * 6 ^ d := fun d => Nat.le_mul_of_pos_right _ (Nat.pow_pos (by decide))
  refine RE.ind (P := fun r => ∀ d, Shp r d → plc r ≤ 124 * 6 ^ d) ?_ ?_ ?_ ?_ ?_ ?_ ?_ ?_ ?_ ?_ ?_ ?_ r
  · intro d _; simp [plc]
  · intro rs d h
    simp only [Shp, plc] at *
    have := sum_le_mul (l := rs.map fun r => (enc r).length) (b := 4) (fun x hx => by obtain ⟨r, -, rfl⟩ := List.mem_map.1 hx; exact enc_len_le r)
    rw [List.length_map] at this
    have := one d
    omega
  · intro l d h
    simp only [Shp, plc] at *
    have := classPl_le l
    have := one d
    omega
  · intro d _
    have := classPl_le [(0, 1114111)]
    have := one d
    simp only [plc, List.length_cons, List.length_nil] at *
    omega
  · intro d _
    have := classPl_le [(0, 9), (11, 1114111)]
    have := one d
    simp only [plc, List.length_cons, List.length_nil] at *
    omega
  · intro l ih d h
    simp only [Shp, plc, plcs_eq] at *
    obtain ⟨e, rfl, h3, hs⟩ := h
    have h1 := sum_le_mul (l := l.map plc) (b := 124 * 6 ^ e) (fun x hx => by obtain ⟨r, hr, rfl⟩ := List.mem_map.1 hx; exact ih r hr e (ShpL_mem hs r hr))
    rw [List.length_map] at h1
    have h2 := mul_le3 (b := 124 * 6 ^ e) h3
    rw [Nat.pow_succ]
    omega
  · intro l ih d h
    simp only [Shp, plc, plcs_eq] at *
    obtain ⟨e, rfl, h3, hs⟩ := h
    have h1 := sum_le_mul (l := l.map plc) (b := 124 * 6 ^ e) (fun x hx => by obtain ⟨r, hr, rfl⟩ := List.mem_map.1 hx; exact ih r hr e (ShpL_mem hs r hr))
    rw [List.length_map] at h1
    have h2 := mul_le3 (b := 124 * 6 ^ e) h3
    rw [Nat.pow_succ]
    omega
  · intro r ih d h; simp only [Shp, plc] at *; obtain ⟨e, rfl, hs⟩ := h; have := ih e hs; rw [Nat.pow_succ]; omega
  · intro r ih d h; simp only [Shp, plc] at *; obtain ⟨e, rfl, hs⟩ := h; have := ih e hs; rw [Nat.pow_succ]; omega
  · intro r ih d h; simp only [Shp, plc] at *; obtain ⟨e, rfl, hs⟩ := h; have := ih e hs; rw [Nat.pow_succ]; omega
  · intro mn mx r ih d h
    simp only [Shp] at h
    obtain ⟨e, rfl, hmn, hmx, hs⟩ := h
    have h1 := ih e hs
    rw [Nat.pow_succ]
    have h6 : ∀ k, k ≤ 6 → plc r * k ≤ 124 * (6 ^ e * 6) := fun k hk => by
      have h2 : plc r * k ≤ plc r * 6 := Nat.mul_le_mul_left _ hk
      have h3 : plc r * 6 ≤ 124 * 6 ^ e * 6 := Nat.mul_le_mul_right _ h1
      rw [Nat.mul_assoc] at h3
      omega
    cases mx with
    | none => simp only [plc]; exact h6 _ (by omega)
    | some mx => simp only [plc]; have := hmx mx rfl; exact h6 _ (by omega)
  · intro r ih d h; simp only [Shp, plc] at *; obtain ⟨e, rfl, hs⟩ := h; have := ih e hs; rw [Nat.pow_succ]; omega
theorem wide_of (r : RE) : ∀ d, Shp r d → Wide r := by
  have many : ∀ (l : List RE) e, (∀ r, r ∈ l → ∀ d, Shp r d → Wide r) → ShpL l e → WideL l := by
    intro l
    induction l with
    | nil => intro e _ _; simp only [WideL]
    | cons a l ih => intro e h hs; simp only [WideL, ShpL] at *; exact ⟨h a (by simp) e hs.1, ih e (fun r hr => h r (by simp [hr])) hs.2⟩
  refine RE.ind (P := fun r => ∀ d, Shp r d → Wide r) ?_ ?_ ?_ ?_ ?_ ?_ ?_ ?_ ?_ ?_ ?_ ?_ r
  · intro d _; simp only [Wide]
  · intro rs d h; simp only [Shp, Wide] at *; omega
  · intro l d h; simp only [Shp, Wide] at *; omega
  · intro d _; simp only [Wide]
  · intro d _; simp only [Wide]
  · intro l ih d h; simp only [Shp, Wide] at *; obtain ⟨e, rfl, h3, hs⟩ := h; exact ⟨by omega, many l e ih hs⟩
  · intro l ih d h; simp only [Shp, Wide] at *; obtain ⟨e, rfl, h3, hs⟩ := h; exact ⟨by omega, many l e ih hs⟩
  · intro r ih d h; simp only [Shp, Wide] at *; obtain ⟨e, rfl, hs⟩ := h; exact ih e hs
  · intro r ih d h; simp only [Shp, Wide] at *; obtain ⟨e, rfl, hs⟩ := h; exact ih e hs
  · intro r ih d h; simp only [Shp, Wide] at *; obtain ⟨e, rfl, hs⟩ := h; exact ih e hs
  · intro mn mx r ih d h; simp only [Shp, Wide] at *; obtain ⟨e, rfl, h1, h2, hs⟩ := h; exact ih e hs
  · intro r ih d h; simp only [Shp, Wide] at *; obtain ⟨e, rfl, hs⟩ := h; exact ih e hs
/-- 'Expression' at any number of levels. -/
theorem expr_calls : ∀ (d : Nat), d ≤ 100 → ∀ (w : World) (v : Value), RawE w d v → Calls Tryd.prog 6 #[v, .int .i64 ((d + 1 : Nat) : Int)] w (ExprPost w d)
  | 0, h, w, v, hv => expr_step h hv (fun d' e => by omega)
  | d + 1, h, w, v, hv => expr_step h hv (fun d' e W v' hv' => by
    obtain rfl : d' = d := by omega
    exact expr_calls d' (by omega) W v' hv')
end Go.Proofs.YtjeklnbfpehbeaaDoor
