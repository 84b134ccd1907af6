/- The reference's Merged (f6). Condition: at most 200 maps, at most 65536 pairs. -/
import Derived.Test.YtmhlnijpimjjaaaGreatDoorM36
set_option linter.unusedSimpArgs false
set_option linter.unusedVariables false
namespace Go.Proofs.YtmhlnijpimjjaaaGreatDoor
open Go.RowKit Fmt
theorem cnt_flat (S : List Prs) : S.flatten.length = cnt S := by
 unfold cnt
 rw [List.length_flatten]
theorem flat_take {S : List Prs} {i : Nat} {L : Prs} (h : S[i]? = some L) : (S.take (i + 1)).flatten = (S.take i).flatten ++ L := by
 rw [List.take_add_one, h]; simp
theorem cnt_take_le (S : List Prs) (i : Nat) : cnt (S.take i) ≤ cnt S := by
 have h := congrArg cnt (List.take_append_drop i S)
 have e : cnt (S.take i ++ S.drop i) = cnt (S.take i) + cnt (S.drop i) := by unfold cnt; rw [List.map_append, List.sum_append]
 omega
theorem look_len (k : List Nat) : ∀ S : List Prs, (S.flatMap fun L => lookV L k).length ≤ S.length
 | [] => Nat.le_refl _
 | L :: S => by
  have h := look_len k S
  have h1 : (lookV L k).length ≤ 1 := by
   unfold lookV
   split
   ·split <;> simp
   ·simp
  rw [List.flatMap_cons, List.length_append, List.length_cons]
  omega
def MgdPost (w : World) (S : List Prs) (how : Nat) (e : Ending) (w' : World) : Prop := ∃ u SS, e = .returned u ∧ prsOf SS = mergedP S how ∧ PrO w' w.heap.size u SS ∧ Fr (fun _ => False) w w'
set_option maxHeartbeats 4000000 in
set_option maxRecDepth 100000 in
theorem merged_calls {w : World} {v : Value} {S : List Prs} {how : Nat} (h : SetsN w v S) (h200 : S.length ≤ 200) (hcnt : cnt S ≤ 65536) (hsrt : ∀ L, L ∈ S → Srt L) (hk : ∀ L, L ∈ S → ∀ p, p ∈ L → p.1.length ≤ 2147483647 ∧ p.2 < 2 ^ 64) (hh : how ≤ 2) :
  Calls Tryz.prog 6 #[v, .int .i64 (how : Int)] w fun e w' => MgdPost w S how e w' := by
 obtain ⟨A, c, rfl, hc, hm⟩ := h.setv.len
 obtain ⟨N, hN⟩ : ∃ N, Hid (S.length = N) := ⟨_, Lib.hid rfl⟩
 have HS := Lib.hid (And.intro h (And.intro h200 (And.intro hcnt (And.intro hsrt (And.intro hk hh)))))
 have H0 : Hid (PrO w w.heap.size (.slice none 0 0) []) := Lib.hid ⟨[], .inl ⟨rfl, rfl, rfl⟩, rfl, fun b hb => by simp [Value.ownBlock] at hb⟩
 rw [hN.out] at hc h200 ⊢
 clear h hcnt hsrt hk hh hm hc
 go_enter Tryz.func6, Tryz.ntmps6
 go_wp2_with fail
 go_loopg [5, 6] (N + 1) (fun g tv ti wx => ∃ (i : Nat) (O : List (ByteArray × Nat)), i ≤ N ∧ g = N - i + 1 ∧ ti = .int .i64 (i : Int) ∧ PrO wx w.heap.size tv O ∧ prsOf O = (S.take i).flatten ∧ Fr (fun _ => False) w wx)
 case atStart => exact ⟨0, [], by omega, by omega, rfl, H0.out, by simp [prsOf], Fr.refl _ _⟩
 case round =>
  clear H0
  obtain ⟨i, O, hi, hg, rfl, hO, hpo, hFx⟩ := hrel
  obtain ⟨full, hRow, htk, hbs⟩ := hO.ex
  obtain ⟨AO, cO, rfl⟩ := rowv hRow
  have hOl : O.length ≤ 65536 := by
   have h1 := congrArg List.length hpo
   rw [cnt_flat] at h1
   have h2 := cnt_take_le S i
   have := HS.out.2.2.1
   simp [prsOf] at h1
   omega
  have HX := Lib.hid (And.intro hO (And.intro hpo (And.intro hFx (And.intro htk (And.intro hbs (And.intro hRow (And.intro hg (And.intro hi hOl))))))))
  by_cases hend : i = N
  ·have d1 : ¬ (i : Int) < (N : Int) := by omega
   have hti : S.take i = S := List.take_of_length_le (by have := hN.out; omega)
   have hmap := map_calls (prsOf O).length (Nat.le_refl _) hO.v (by simp [prsOf]; omega) (fun p hp => by
    rw [hpo, hti] at hp
    obtain ⟨L, hL, hp⟩ := List.mem_flatten.1 hp
    exact (HS.out.2.2.2.2.1 L hL p hp).1)
   have ep : prsOf O = S.flatten := by rw [hpo, hti]
   rw [ep] at hmap
   obtain ⟨lO, hlO⟩ : ∃ l, Hid (O.length = l) := ⟨_, Lib.hid rfl⟩
   rw [hlO.out] at hmap ⊢
   clear hO hpo hFx htk hbs hRow hg hi hOl hti ep hend
   go_wp2_with fail
   refine hmap.mono ?_
   rintro e w2 ⟨v2, SS, rfl, eS, hP, hF2⟩
   clear hmap
   obtain ⟨AQ, cQ, rfl⟩ : ∃ A c, v2 = .slice A SS.length c := by obtain ⟨_, h1, _⟩ := hP.ex; exact rowv h1
   have hMl : SS.length ≤ 65536 := by
    have h1 := (mapP_ok _ S.flatten (Nat.le_refl _)).2.2.2
    rw [← eS, cnt_flat] at h1
    have := HS.out.2.2.1
    simp [prsOf] at h1
    omega
   have HP := Lib.hid (And.intro hP (And.intro eS (And.intro (HX.out.2.2.1.trans hF2 (fun _ _ h => h)) hMl)))
   have hbase : Hid (w.heap.size ≤ wr.heap.size) := Lib.hid HX.out.2.2.1.size
   obtain ⟨M, hM⟩ : ∃ M, Hid (SS.length = M) := ⟨_, Lib.hid rfl⟩
   rw [hM.out] at hMl ⊢
   obtain ⟨J, hJ⟩ : ∃ J : ByteArray → Nat, Hid (J = fun s => jn how (S.flatMap fun l => lookV l (bytesOf s))) := ⟨_, Lib.hid rfl⟩
   clear hP eS hF2
   go_wp2_with fail
   go_loopg [7] (M + 1) (fun g ti wx => ∃ (q : Nat), q ≤ M ∧ g = M - q + 1 ∧ ti = .int .i64 (q : Int) ∧ PrO wx w.heap.size (.slice AQ M cQ) (mixJ J q SS) ∧ Fr (fun _ => False) w wx)
   case atStart => exact ⟨0, by omega, by omega, rfl, by have h := HP.out.1.mono hbase.out; rw [hM.out] at h; simpa [mixJ] using h, HP.out.2.2.1⟩
   case round =>
    obtain ⟨q, hq, hg, rfl, hO, hFx⟩ := hrel
    have HQ := Lib.hid (And.intro hO (And.intro hFx (And.intro hg hq)))
    by_cases hend : q = M
    ·subst hend
     have d1 : ¬ (q : Int) < (q : Int) := by omega
     clear hO hFx hg hq
     go_wp2_with fail
     go_ret
     obtain ⟨hO, hFx, -⟩ := HQ.out
     refine ⟨_, _, rfl, ?_, hO, hFx⟩
     have e1 : mixJ J q SS = SS.map fun s => (s.1, J s.1) := by
      unfold mixJ
      rw [List.take_of_length_le (by rw [hM.out]; exact Nat.le_refl _), List.drop_of_length_le (by rw [hM.out]; exact Nat.le_refl _), List.append_nil]
     rw [e1]
     unfold mergedP
     rw [← HP.out.2.1, hJ.out]
     simp [prsOf]
    ·obtain ⟨s, hs⟩ : ∃ s, SS[q]? = some s := ⟨_, List.getElem?_eq_getElem (by rw [hM.out]; omega)⟩
     obtain ⟨hm1, hm2⟩ := mixJ_at (J := J) hs
     obtain ⟨gq, cq, eq1, ka, kb⟩ := hO.at_ hm1
     rw [mixJ_len, hM.out] at eq1
     injection eq1 with eq1 eq2 eq3
     subst eq1 eq3
     clear eq2
     obtain ⟨key, z⟩ := s
     simp only at ka kb hm2
     have hkey : Hid (∃ L, L ∈ S ∧ ∃ p, p ∈ L ∧ p.1 = bytesOf key) := Lib.hid (by
      have h1 : (bytesOf key, z) ∈ prsOf SS := List.mem_map.2 ⟨(key, z), List.mem_of_getElem? hs, rfl⟩
      rw [HP.out.2.1] at h1
      have h2 := (mapP_ok _ S.flatten (Nat.le_refl _)).2.1 _ h1
      obtain ⟨L, hL, hp⟩ := List.mem_flatten.1 h2
      exact ⟨L, hL, _, hp, rfl⟩)
     have HK := Lib.hid (And.intro hs (And.intro hm1 (And.intro hm2 (And.intro ka kb))))
     have d1 : (q : Int) < (M : Int) := by omega
     have d2 : IntKind.i64.wrap ((q : Int) + 1) = ((q + 1 : Nat) : Int) := by rw [IntWalk.i64_in _ (by omega)]; omega
     have H1 : Hid (NumO wr wr.heap.size (.slice none 0 0) []) := Lib.hid ⟨[], .inl ⟨rfl, rfl, rfl⟩, fun i x hx => by simp at hx, fun b hb => by simp [Value.ownBlock] at hb⟩
     clear hO hFx hg hq hend hs hm1 hm2 ka kb
     go_wp2_with fail
     have HV : Hid (∀ X, Fr (fun _ => False) wr X → SetsN X (.slice A S.length c) S ∧ X.cell? ⟨gq, q * 2, none⟩ = some (.string key)) := Lib.hid fun X hX => ⟨HS.out.1.fr (HQ.out.2.1.trans hX (fun _ _ h => h)), hX.cell HK.out.2.2.2.1 (fun h => h)⟩
     have HW : Hid (∀ X, Fr (fun _ => False) wr X → PrO X w.heap.size (.slice (some ⟨gq, 0, none⟩) M cQ) (mixJ J q SS) ∧ X.cell? ⟨gq, q * 2 + 1, none⟩ = some (.int .u64 (z : Int)) ∧ X.frozen? ⟨gq, q * 2 + 1, none⟩ = false) := Lib.hid fun X hX => by
      have h1 := HQ.out.1.fr hX (fun _ _ h => h)
      refine ⟨h1, hX.cell HK.out.2.2.2.2 (fun h => h), ?_⟩
      obtain ⟨full, k1, -, -⟩ := h1.ex
      rcases k1 with ⟨e, _⟩ | ⟨g', cap', e, hb, -⟩
      ·cases e
      ·injection e with e
       injection e with e
       injection e with e
       subst e
       exact hb.frz _
     have HW2 : Hid (w.heap.size ≤ gq) := Lib.hid (by obtain ⟨_, _, _, h3⟩ := HQ.out.1.ex; exact h3 gq rfl)
     go_loopg [8, 9] (N + 1) (fun g tv ti wx => ∃ (k : Nat) (l : List Nat), k ≤ N ∧ g = N - k + 1 ∧ ti = .int .i64 (k : Int) ∧ NumO wx wr.heap.size tv l ∧ l = (S.take k).flatMap (fun L => lookV L (bytesOf key)) ∧ Fr (fun _ => False) wr wx)
     case atStart => exact ⟨0, [], by omega, by omega, rfl, H1.out, by simp, Fr.refl _ _⟩
     case round =>
      clear H1
      obtain ⟨k, l, hk, hg, rfl, hl, hle, hFy⟩ := hrel
      obtain ⟨fl, hRow, hat, hbs⟩ := hl.ex
      obtain ⟨Al, cl, rfl⟩ := rowv hRow
      have hll : l.length ≤ 200 := by
       rw [hle]
       exact Nat.le_trans (look_len _ _) (by have := hN.out; simp; omega)
      have HY := Lib.hid (And.intro hl (And.intro hle (And.intro hFy (And.intro hat (And.intro hbs (And.intro hg (And.intro hk hll)))))))
      obtain ⟨nl, hnl⟩ : ∃ v, Hid (l.length = v) := ⟨_, Lib.hid rfl⟩
      rw [hnl.out] at hRow ⊢
      by_cases hend : k = N
      ·have d3 : ¬ (k : Int) < (N : Int) := by omega
       have hle' : l = S.flatMap fun L => lookV L (bytesOf key) := by rw [hle, List.take_of_length_le (by have := hN.out; omega)]
       have hne : l ≠ [] := by
        obtain ⟨L, hL, p, hp, e⟩ := hkey.out
        rw [hle']
        intro h0
        have h1 := List.flatMap_eq_nil_iff.1 h0 L hL
        rw [lookV_eq _ (HS.out.2.2.2.1 L hL)] at h1
        have h2 : p.2 ∈ (L.filter fun p => decide (p.1 = bytesOf key)).map fun p => p.2 := List.mem_map.2 ⟨p, List.mem_filter.2 ⟨hp, by simpa using e⟩, rfl⟩
        rw [h1] at h2
        cases h2
       have hlt : ∀ x, x ∈ l → x < 2 ^ 64 := fun x hx => by
        rw [hle'] at hx
        obtain ⟨L, hL, hx⟩ := List.mem_flatMap.1 hx
        rw [lookV_eq _ (HS.out.2.2.2.1 L hL)] at hx
        obtain ⟨p, hp, rfl⟩ := List.mem_map.1 hx
        exact (HS.out.2.2.2.2.1 L hL p (List.mem_filter.1 hp).1).2
       have hjn := joined_calls hl.v hne (by omega) hlt HS.out.2.2.2.2.2
       have hJv : jn how l = J key := by rw [hJ.out, hle']
       rw [hnl.out, hJv] at hjn
       have HO := Lib.hid (HW.out _ hFy)
       have kv := HO.out.2.1
       have zv := HO.out.2.2
       clear hl hle hle' hFy hat hbs hg hk hll hRow hend hne hlt hJv
       go_wp2_with fail
       refine hjn.mono ?_
       rintro e w4 ⟨rfl, rfl⟩
       clear hjn
       go_wp2_with fail
       go_roundg (M - (q + 1) + 1)
       case measure => have := HQ.out.2.2.1; have := HQ.out.2.2.2; omega
       case rel =>
        refine ⟨q + 1, by omega, rfl, by simp, PrO.setJ HO.out.1 (by rw [mixJ_len]; exact hM.out) (by rw [mixJ_len, mixJ_len]) (by rw [mixJ_len, hM.out]; omega) (by rw [cellsP_set HK.out.2.1, HK.out.2.2.1]), (HQ.out.2.1.trans HY.out.2.2.1 (fun _ _ h => h)).setCell (fun hlt => by have := HW2.out; simp only at hlt; omega) _⟩
      ·obtain ⟨L, hL⟩ : ∃ L, S[k]? = some L := ⟨_, List.getElem?_eq_getElem (by have := hN.out; omega)⟩
       obtain ⟨hset, ky⟩ := HV.out _ hFy
       obtain ⟨b, o, c', u, k1, k2, k3⟩ := hset.at_ hL
       injection k1 with k1 k1b k1c
       subst k1 k1c
       clear k1b
       obtain ⟨bL, oL, cL, rfl, hpa, hbl, hcl, hcm⟩ := id k3
       have hfrom := from_calls (w := wr.drew) (v := .slice (some ⟨bL, oL, none⟩) L.length cL) (L := L) (.inl ⟨bL, oL, cL, rfl, hpa.fr (Fr.refl (fun _ => False) wr).drew (fun h => h), hbl, hcl, hcm⟩) (by unfold maxLen at hcm; have h1 := congrArg List.length (flat_take hL); rw [cnt_flat, List.length_append] at h1; have h2 := cnt_take_le S (k + 1); have := HS.out.2.2.1; omega) key (fun p hp => (HS.out.2.2.2.2.1 L (List.mem_of_getElem? hL) p hp).1)
       obtain ⟨m, hm⟩ : ∃ m, Hid (L.length = m) := ⟨_, Lib.hid rfl⟩
       obtain ⟨at_, hat_⟩ : ∃ v, Hid (fromN L (bytesOf key) = v) := ⟨_, Lib.hid rfl⟩
       rw [hm.out] at k2
       rw [hm.out, hat_.out] at hfrom
       have d3 : (k : Int) < (N : Int) := by omega
       have d4 : IntKind.i64.wrap ((k : Int) + 1) = ((k + 1 : Nat) : Int) := by rw [IntWalk.i64_in _ (by omega)]; omega
       have HL := Lib.hid (And.intro hL (And.intro hpa (And.intro ky k2)))
       clear hl hle hFy hat hbs hg hk hll hend hL hset k3 hpa hbl hcl hcm
       go_wp2_with fail
       refine wp_region_seqV (fun W => W.cell? ⟨b, o + k, none⟩ = some (.slice (some ⟨bL, oL, none⟩) m cL) ∧ W.cell? ⟨gq, q * 2, none⟩ = some (.string key)) (fun i => decide (i ≠ 9)) (fun i => ![3, 8].contains i && decide (i ≠ 9)) (fun i => false) [0, 1, 2, 3, 4, 5, 6, 7, 8, 9, 10] (by kernel_rfl) (by kernel_rfl) (fun c a d v w h => by cases d <;> exact h) ⟨k2, ky⟩ ?_
       iterate 3 (apply seqV_pure (ho := rfl) (hr := rfl) (hg := rfl); (intro w'; go_simp; rfl))
       (apply seqV_read (ho := rfl) (hr := rfl) (hp := rfl) (hg := rfl); (rintro w' ⟨q0, q1⟩; go_simp; rfl))
       go_simp
       iterate 3 (apply seqV_pure (ho := rfl) (hr := rfl) (hg := rfl); (intro w'; go_simp; rfl))
       go_simp
       iterate 1 (apply seqV_pure (ho := rfl) (hr := rfl) (hg := rfl); (intro w'; go_simp; rfl))
       (apply seqV_read (ho := rfl) (hr := rfl) (hp := rfl) (hg := rfl); (rintro w' ⟨q0, q1⟩; go_simp; rfl))
       go_simp
       refine seqV_do rfl rfl fun K hK => ?_
       go_simp
       refine hfrom.mono ?_
       rintro e w4 ⟨rfl, hF4⟩
       have k2b := hF4.cell k2 (fun h => h)
       have kyb := hF4.cell ky (fun h => h)
       have HF4 := Lib.hid hF4
       refine hK _ _ (fun _ => ⟨k2b, kyb⟩) ?_
       clear hK K hfrom k2 ky hF4
       go_simp
       iterate 1 (apply seqV_pure (ho := rfl) (hr := rfl) (hg := rfl); (intro w'; go_simp; rfl))
       unfold seqV
       go_simp
       have hFr4 : Fr (fun _ => False) wr w4 := (Fr.refl (fun _ => False) wr).drew.trans HF4.out (fun _ _ h => h)
       by_cases hlt : at_ < m
       ·obtain ⟨p, hp⟩ : ∃ p, L[at_]? = some p := ⟨_, List.getElem?_eq_getElem (by rw [hm.out]; exact hlt)⟩
        obtain ⟨s1, e1, e2, e3⟩ := HL.out.2.1 at_ p hp
        have v1 : w4.cell? ⟨bL, oL + at_ * 2, none⟩ = some (.string s1) := hFr4.cell e1 (fun h => h)
        have v2 : w4.cell? ⟨bL, oL + at_ * 2 + 1, none⟩ = some (.int .u64 (p.2 : Int)) := hFr4.cell e3 (fun h => h)
        have d5 : (at_ : Int) < (m : Int) := by omega
        have hlk : lookV L (bytesOf key) = if p.1 = bytesOf key then [p.2] else [] := by unfold lookV; rw [hat_.out, hp]
        have hrow4 : RowF w4 40 1 (.slice Al nl cl) nl fl := hRow.fr hFr4 (fun _ _ h => h)
        by_cases hpk : p.1 = bytesOf key
        ·rw [if_pos hpk] at hlk
         obtain rfl : s1 = key := bytesOf_inj (e2.trans hpk)
         obtain ⟨z2, hz2⟩ : ∃ z, Hid (p.2 = z) := ⟨_, Lib.hid rfl⟩
         rw [hz2.out] at v2 hlk
         have HP2 := Lib.hid (And.intro hlk hrow4)
         clear e1 e2 e3 hp hpk hlk hFr4 hrow4 hRow hlt
         go_wp2_with fail
         go_quiet (fail)
         rename_i nq
         have k2c : (w4.drewN nq).cell? ⟨b, o + k, none⟩ = some (.slice (some ⟨bL, oL, none⟩) m cL) := k2b
         have v2c : (w4.drewN nq).cell? ⟨bL, oL + at_ * 2 + 1, none⟩ = some (.int .u64 (z2 : Int)) := v2
         have hrow5 : RowF (w4.drewN nq) 40 1 (.slice Al nl cl) nl fl := HP2.out.2.fr ((Fr.refl (fun _ => False) w4).drewN nq) (fun _ _ h => h)
         have HF5 : Hid (Fr (fun _ => False) wr (w4.drewN nq)) := Lib.hid ((Fr.refl (fun _ => False) wr).drew.trans (HF4.out.drewN nq) (fun _ _ h => h))
         clear k2b kyb v1 v2
         generalize w4.drewN nq = w6 at *
         go_wp2_with (at_builtin; (refine app1f w6 w6.heap.size rfl rfl _ _ 43 rfl 40 (.int .u64 0) 1 8 (by kernel_rfl) (by kernel_rfl) rfl (.slice Al nl cl) nl fl [.int .u64 (z2 : Int)] rfl rfl hrow5 rfl (by simp [Value.oneCell']) (by have := HY.out.2.2.2.2.2.2.2; have := hnl.out; omega) (by decide) ?_); intro v5 w5 full5 hr5 hF5 hc5)
         go_roundg (N - (k + 1) + 1)
         case measure => have := HY.out.2.2.2.2.2.1; have := HY.out.2.2.2.2.2.2.1; omega
         case rel =>
          obtain ⟨hl, hle, hFy, hat, hbs, hg, hk, hll⟩ := HY.out
          have hO5 := NumO.app (v := .slice Al nl cl) (x := z2) (l := l) (by rw [hnl.out]; exact hrow5) hat (fun b hb => hbs b (by rw [hnl.out]; exact hb)) (hFy.trans HF5.out (fun _ _ h => h)).size (by rw [hnl.out]; exact hr5) (by rw [hnl.out]; exact hc5)
          refine ⟨k + 1, l ++ [z2], by omega, rfl, by simp, hO5, ?_, (hFy.trans HF5.out (fun _ _ h => h)).trans hF5 (fun x hx h => by have := hbs x (by rw [hnl.out]; exact h); omega)⟩
          rw [take_snoc HL.out.1, List.flatMap_append, ← hle]
          simp [HP2.out.1]
        ·rw [if_neg hpk] at hlk
         have f2 := str_ne (s := s1) (t := key) (fun e => hpk (by rw [← e2, e]))
         have HP2 := Lib.hid hlk
         clear e1 e2 e3 hp hpk hlk hFr4 hrow4 hlt v2
         go_wp2_with fail
         go_quiet (fail)
         rename_i nq
         go_wp2_with fail
         go_roundg (N - (k + 1) + 1)
         case measure => have := HY.out.2.2.2.2.2.1; have := HY.out.2.2.2.2.2.2.1; omega
         case rel =>
          obtain ⟨hl, hle, hFy, hat, hbs, hg, hk, hll⟩ := HY.out
          have hF6 : Fr (fun _ => False) wr (w4.drewN nq) := (Fr.refl (fun _ => False) wr).drew.trans (HF4.out.drewN nq) (fun _ _ h => h)
          refine ⟨k + 1, l, by omega, rfl, by simp, by have h := hl.fr hF6; rw [hnl.out] at h; exact h, ?_, hFy.trans hF6 (fun _ _ h => h)⟩
          rw [take_snoc HL.out.1, List.flatMap_append, ← hle]
          simp [HP2.out]
       ·have d5 : ¬ (at_ : Int) < (m : Int) := by omega
        have hlk : lookV L (bytesOf key) = [] := by unfold lookV; rw [hat_.out, List.getElem?_eq_none (by rw [hm.out]; omega)]
        have HP2 := Lib.hid hlk
        clear hlk hFr4 hRow
        go_wp2_with fail
        have d6 : ¬ (at_ : Int) < (m : Int) := by omega
        go_quiet (fail)
        rename_i nq
        go_wp2_with fail
        go_roundg (N - (k + 1) + 1)
        case measure => have := HY.out.2.2.2.2.2.1; have := HY.out.2.2.2.2.2.2.1; omega
        case rel =>
         obtain ⟨hl, hle, hFy, hat, hbs, hg, hk, hll⟩ := HY.out
         have hF6 : Fr (fun _ => False) wr (w4.drewN nq) := (Fr.refl (fun _ => False) wr).drew.trans (HF4.out.drewN nq) (fun _ _ h => h)
         refine ⟨k + 1, l, by omega, rfl, by simp, by have h := hl.fr hF6; rw [hnl.out] at h; exact h, ?_, hFy.trans hF6 (fun _ _ h => h)⟩
         rw [take_snoc HL.out.1, List.flatMap_append, ← hle]
         simp [HP2.out]
  ·obtain ⟨L, hL⟩ : ∃ L, S[i]? = some L := ⟨_, List.getElem?_eq_getElem (by have := hN.out; omega)⟩
   obtain ⟨b, o, c', u, k1, k2, k3⟩ := (HS.out.1.fr hFx).at_ hL
   rw [hN.out] at k1
   injection k1 with k1 k1b k1c
   subst k1 k1c
   clear k1b
   obtain ⟨bL, oL, cL, T, rfl, eT, hTl, hnews⟩ := k3.news
   have hTc : O.length + T.length ≤ 65536 := by
    have h1 := congrArg List.length (flat_take hL)
    rw [cnt_flat, List.length_append, ← hpo] at h1
    have h2 := cnt_take_le S (i + 1)
    have := HS.out.2.2.1
    simp [prsOf] at h1
    omega
   have d1 : (i : Int) < (N : Int) := by omega
   have d2 : IntKind.i64.wrap ((i : Int) + 1) = ((i + 1 : Nat) : Int) := by rw [IntWalk.i64_in _ (by omega)]; omega
   obtain ⟨m, hm⟩ : ∃ m, Hid (L.length = m) := ⟨_, Lib.hid rfl⟩
   obtain ⟨lO, hlO⟩ : ∃ l, Hid (O.length = l) := ⟨_, Lib.hid rfl⟩
   rw [hm.out] at k2 hTl
   rw [hlO.out] at hRow ⊢
   have hcO : lO ≤ cO := by obtain ⟨_, _, e, h1, _⟩ := hRow.slc; injection e with _ _ e; subst e; exact h1
   have HI := Lib.hid (And.intro hL (And.intro eT (And.intro hTl hTc)))
   clear hO hpo hFx htk hbs hg hi hOl hend hL eT hTc k3
   by_cases hm0 : m = 0
   ·subst hm0
    clear hnews hRow
    go_wp2_with (at_builtin; refine wpList_app_none rfl _ _ rfl rfl AO lO cO hcO (some ⟨bL, oL, none⟩) cL rfl rfl ?_)
    go_roundg (N - (i + 1) + 1)
    case measure => have := HX.out.2.2.2.2.2.2; omega
    case rel =>
     obtain ⟨hO, hpo, hFx, -⟩ := HX.out
     rw [hlO.out] at hO
     refine ⟨i + 1, O, by have := HX.out.2.2.2.2.2.2; omega, rfl, by simp, hO, ?_, hFx⟩
     have : L = [] := List.length_eq_zero_iff.1 hm.out
     rw [flat_take HI.out.1, this, List.append_nil]; exact hpo
   ·go_wp2_with (at_builtin; (refine wpList_append_full wr rfl _ _ 26 rfl 42 (.agg #[.string ⟨#[]⟩, .int .u64 0]) 2 24 (by kernel_rfl) (by kernel_rfl) rfl (.slice AO lO cO) lO full rfl hRow ⟨bL, oL, none⟩ m cL (cellsP T) rfl (by rw [cellsP_len, hTl]) hnews (fun u hu => by obtain ⟨j, hj⟩ := List.getElem?_of_mem hu; obtain ⟨_, _, _, ⟨_, rfl⟩ | ⟨_, rfl⟩⟩ := cellsP_get hj <;> rfl) (by omega) (by have := HI.out.2.2; have := hlO.out; simp only [maxLen]; omega) (by have := HI.out.2.2; have := hlO.out; omega) ?_); intro v5 w5 full5 hr5 hF5 hc5)
    go_roundg (N - (i + 1) + 1)
    case measure => have := HX.out.2.2.2.2.2.2; omega
    case rel =>
     obtain ⟨hO, hpo, hFx, htk, hbs, hRow0, -⟩ := HX.out
     rw [hlO.out] at hbs hRow0 htk
     have hO5 := PrO.appN (O := O) (T := T) (base := w.heap.size) (v := .slice AO lO cO) (by rw [hlO.out]; exact hRow0) (by rw [hlO.out]; exact htk) hbs hFx.size (by rw [hlO.out, HI.out.2.2.1]; exact hr5) (by rw [hlO.out, HI.out.2.2.1]; exact hc5)
     refine ⟨i + 1, O ++ T, by have := HX.out.2.2.2.2.2.2; omega, rfl, by simp, hO5, ?_, hFx.trans hF5 (fun x hx h => by have := hbs x h; omega)⟩
     rw [flat_take HI.out.1, ← hpo, ← HI.out.2.1]
     simp [prsOf]
end Go.Proofs.YtmhlnijpimjjaaaGreatDoor
