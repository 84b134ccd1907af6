/- The reference's Map. Condition: at most 2^31 pairs, keys below 2^31 bytes. Which way of putting values together is meant. Condition: one of the three. -/
import Derived.Test.YtmhlnijpimjjaaaGreatDoorM27
import Derived.Test.YtmhlnijpimjjaaaGreatDoorM15
import Derived.Test.YtmhlnijpimjjaaaGreatDoorM24
import Derived.Test.YtmhlnijpimjjaaaGreatDoorM26
set_option linter.unusedSimpArgs false
set_option linter.unusedVariables false
namespace Go.Proofs.YtmhlnijpimjjaaaGreatDoor
section
open Go.RowKit Fmt
theorem app_zero26 (w : World) (ad : Addr) (A : Option Addr) (c : Nat) : (Builtin.append_ #[26, 26] 26 #[.slice (some ad) 0 0, .slice A 0 c]).run Tryz.prog w = .ok (.slice (some ad) 0 0) w := by cases A <;> kernel_rfl
section
variable {ops : Array Oper} {o : Oper} {rest : List Oper} {a : Act} {Q : Exit → Act → World → Prop} {w : World}
theorem wpList_app_zero (hgd : o.guard = none) (s x : Operand) (ho : o.op = .call { callee := .builtin .append, args := #[s, x], argTypes := #[26, 26] }) (hty : o.type = 26) (ad : Addr) (A : Option Addr) (c : Nat) (hs : a.eval s = .slice (some ad) 0 0) (hx : a.eval x = .slice A 0 c) (hk : wpList Tryz.prog ops Q rest (a.put o.dst (.slice (some ad) 0 0)) w) : wpList Tryz.prog ops Q (o :: rest) a w := by
 have hr := app_zero26 w ad A c
 refine wpList_plain hgd fun K hK => ?_
 unfold Oper.wp execOp
 simp only [ho, hty, resolve, invoke, builtin, Sem.run_bind, Sem.run_pure, Result.andThen_ok, List.map_toArray, List.map_cons, List.map_nil, hs, hx, hr]
 exact hK _ _ hk
end
/-- What Map gives. -/
def MapPost (w : World) (L : Prs) (e : Ending) (w' : World) : Prop := ∃ v SS, e = .returned v ∧ prsOf SS = mapP L ∧ PrO w' w.heap.size v SS ∧ Fr (fun _ => False) w w'
set_option maxHeartbeats 1000000 in
set_option maxRecDepth 100000 in
theorem map_none {w : World} {v : Value} (h : PrV w v []) : Calls Tryz.prog 14 #[v] w fun e w' => MapPost w [] e w' := by
 obtain ⟨A, c, rfl, hc, hm⟩ := h.len
 simp only [List.length_nil] at *
 clear h hc hm
 go_enter Tryz.func14, Tryz.ntmps14
 go_wp2_with (at_builtin; refine wpList_app_zero rfl _ _ rfl rfl ⟨w.heap.size, 0, none⟩ A c rfl rfl ?_)
 go_ret
 refine ⟨_, [], rfl, ?_, ⟨[], .inr ⟨w.heap.size, 0, rfl, Blk.newAt w [] 42 _ rfl, Nat.le_refl _, by decide, rfl⟩, rfl, fun b hb => by simp [Value.ownBlock] at hb; omega⟩, (Fr.refl _ w).alloc _⟩
 rw [mapP_small (by decide)]; rfl
set_option maxHeartbeats 1000000 in
set_option maxRecDepth 100000 in
theorem map_one {w : World} {v : Value} {p : List Nat × Nat} (h : PrV w v [p]) : Calls Tryz.prog 14 #[v] w fun e w' => MapPost w [p] e w' := by
 obtain ⟨b, o, c, s, rfl, k1, k2, k3⟩ := h.at_ (i := 0) (p := p) rfl
 obtain ⟨A, c', hv, hc, hm⟩ := h.len
 injection hv with hv1 hv2 hv3
 subst hv1 hv3
 simp only [List.length_cons, List.length_nil, Nat.zero_add, Nat.zero_mul, Nat.add_zero] at *
 clear hv2
 have hrow : RowF (w.alloc (.cells #[] 42)) 42 2 (.slice (some ⟨w.heap.size, 0, none⟩) 0 0) 0 [] := .inr ⟨w.heap.size, 0, rfl, Blk.newAt w [] 42 _ rfl, Nat.le_refl _, by decide, rfl⟩
 have hF1 : Fr (fun _ => False) w (w.alloc (.cells #[] 42)) := (Fr.refl _ w).alloc _
 have hnews : ∀ j u, ([.string s, .int .u64 (p.2 : Int)] : List Value)[j]? = some u → (w.alloc (.cells #[] 42)).cell? ((⟨b, o, none⟩ : Addr).add j) = some u := fun j u hj => by
  rw [Addr.add_mid]
  rcases j with _ | _ | j
  ·simp at hj; subst hj; exact hF1.cell k1 (fun h => h)
  ·simp at hj; subst hj; exact hF1.cell k3 (fun h => h)
  ·simp at hj
 have HN := Lib.hid (And.intro hnews (And.intro hrow hF1))
 have HS := Lib.hid k2
 clear h k1 k2 k3 hnews hrow hF1
 generalize hz : p.2 = z at *
 have HZ := Lib.hid hz
 clear hz
 go_enter Tryz.func14, Tryz.ntmps14
 go_wp2_with (at_builtin; (refine wpList_append_full (w.alloc (.cells #[] 42)) rfl _ _ 26 rfl 42 (.agg #[.string ⟨#[]⟩, .int .u64 0]) 2 24 (by kernel_rfl) (by kernel_rfl) rfl (.slice (some ⟨w.heap.size, 0, none⟩) 0 0) 0 [] rfl HN.out.2.1 ⟨b, o, none⟩ 1 c [.string s, .int .u64 (z : Int)] rfl rfl HN.out.1 (by simp [Value.oneCell']) (by decide) (by decide) (by decide) ?_); intro v' w5 full' hr5 hF5 hc5)
 go_ret
 have hF2 : Fr (fun _ => False) w w5 := HN.out.2.2.trans hF5 (fun i hi h => by simp [Value.ownBlock] at h; omega)
 refine ⟨v', [(s, z)], rfl, ?_, ⟨full', ?_, ?_, fun b hb => ?_⟩, hF2⟩
 ·rw [mapP_small (by simp)]
  simp only [prsOf, List.map_cons, List.map_nil]
  rw [HS.out, ← HZ.out]
 ·exact hr5
 ·rcases hc5 with ⟨_, e⟩ | ⟨_, k, e⟩
  ·rw [e]; rfl
  ·rw [e]; rfl
 ·rcases hc5 with ⟨e, _⟩ | ⟨e, _⟩
  ·rw [e] at hb; simp [Value.ownBlock] at hb; omega
  ·rw [e] at hb; simp at hb; omega
theorem PrO.mono {w : World} {base base' : Nat} {v : Value} {SS : List (ByteArray × Nat)} (h : PrO w base v SS) (hb : base' ≤ base) : PrO w base' v SS := by
 obtain ⟨full, h1, h2, h3⟩ := h.ex
 exact ⟨full, h1, h2, fun b k => Nat.le_trans hb (h3 b k)⟩
theorem PrO.at_ {w : World} {base : Nat} {v : Value} {SS : List (ByteArray × Nat)} (h : PrO w base v SS) {i : Nat} {s : ByteArray × Nat} (hs : SS[i]? = some s) : ∃ g cap, v = .slice (some ⟨g, 0, none⟩) SS.length cap ∧ w.cell? ⟨g, i * 2, none⟩ = some (.string s.1) ∧ w.cell? ⟨g, i * 2 + 1, none⟩ = some (.int .u64 (s.2 : Int)) := by
 obtain ⟨full, h1, h2, h3⟩ := h.ex
 obtain ⟨c1, c2⟩ := cellsP_at hs
 have hil := (List.getElem?_eq_some_iff.1 hs).1
 have get : ∀ j x, j < SS.length * 2 → (cellsP SS)[j]? = some x → full[j]? = some x := fun j x hj hx => by
  rw [← h2, List.getElem?_take, if_pos hj] at hx; exact hx
 rcases h1 with ⟨rfl, h0, _⟩ | ⟨g, cap, rfl, hb, hc, hm, _⟩
 ·omega
 ·exact ⟨g, cap, rfl, hb.cell _ (get _ _ (by omega) c1), hb.cell _ (get _ _ (by omega) c2)⟩
theorem PrO.app {w w5 : World} {base : Nat} {v v' : Value} {O : List (ByteArray × Nat)} {s : ByteArray × Nat} {full full' : List Value} (h1 : RowF w 42 2 v O.length full) (h2 : full.take (O.length * 2) = cellsP O) (h3 : ∀ b, v.ownBlock = some b → base ≤ b) (hbs : base ≤ w.heap.size) (hr : RowF w5 42 2 v' (O.length + 1) full')
  (hc : (v'.ownBlock = v.ownBlock ∧ full' = full.take (O.length * 2) ++ [.string s.1, .int .u64 (s.2 : Int)] ++ full.drop ((O.length + 1) * 2)) ∨ ((∃ b', v'.ownBlock = some b' ∧ w.heap.size ≤ b') ∧ ∃ k, full' = full.take (O.length * 2) ++ [.string s.1, .int .u64 (s.2 : Int)] ++ zeros #[Value.string ⟨#[]⟩, Value.int .u64 0] k)) : PrO w5 base v' (O ++ [s]) := by
 have hl : (cellsP O).length = O.length * 2 := cellsP_len O
 have key : ∀ T : List Value, (full.take (O.length * 2) ++ ([.string s.1, .int .u64 (s.2 : Int)] : List Value) ++ T).take ((O.length + 1) * 2) = cellsP (O ++ [s]) := fun T => by
  rw [h2, cellsP_app, List.take_left' (by simp [hl]; omega)]; rfl
 refine ⟨full', by rw [List.length_append]; exact hr, by rw [List.length_append]; rcases hc with ⟨_, e⟩ | ⟨_, k, e⟩ <;> (rw [e]; exact key _), fun b hb => ?_⟩
 rcases hc with ⟨e, _⟩ | ⟨⟨b', e, hb'⟩, _⟩
 ·rw [e] at hb; exact h3 b hb
 ·rw [e] at hb; cases hb; omega
theorem str_ne {s t : ByteArray} (h : ¬ s = t) : (s.toList == t.toList) = false := by
 rw [beq_eq_false_iff_ne]
 intro e
 apply h
 rw [Lib.toList_data, Lib.toList_data] at e
 cases s; cases t
 congr
 exact Array.ext' e
theorem mm_left (b : Prs) : mm [] b = b := by simp [mm]
theorem drop_prs {SS : List (ByteArray × Nat)} {i : Nat} {s : ByteArray × Nat} (h : SS[i]? = some s) : (prsOf SS).drop i = (bytesOf s.1, s.2) :: (prsOf SS).drop (i + 1) := by
 have hi := (List.getElem?_eq_some_iff.1 h).1
 rw [List.drop_eq_getElem_cons (by simpa [prsOf] using hi)]
 congr 1
 have h2 : (prsOf SS)[i]? = some (bytesOf s.1, s.2) := by unfold prsOf; rw [List.getElem?_map, h]; rfl
 rw [List.getElem?_eq_getElem (by simpa [prsOf] using hi)] at h2
 exact Option.some.inj h2
theorem prs_end {SS : List (ByteArray × Nat)} {i : Nat} (h : SS.length ≤ i) : (prsOf SS).drop i = [] := List.drop_of_length_le (by simpa [prsOf] using h)
theorem PrV.take {w : World} {b o N c m : Nat} {L : Prs} (h : PrV w (.slice (some ⟨b, o, none⟩) N c) L) (hm : m ≤ N) : PrV w (.slice (some ⟨b, o, none⟩) m c) (L.take m) := by
 rcases h with ⟨b', o', c', e, h2, h3, h4, h5⟩ | ⟨h1, A, c', e, hm'⟩
 ·injection e with e1 e2 e3
  injection e1 with e1
  injection e1 with e1 e4
  subst e1 e3 e4
  have hl : (L.take m).length = m := by rw [List.length_take]; omega
  refine .inl ⟨b, o, c, by rw [hl], fun i p hp => h2 i p ?_, h3, by omega, h5⟩
  have := (List.getElem?_eq_some_iff.1 hp).1
  rw [hl] at this
  rwa [List.getElem?_take, if_pos this] at hp
 ·injection e with e1 e2 e3
  exact .inr ⟨by rw [h1]; simp, some ⟨b, o, none⟩, c, by rw [show m = 0 by omega], by omega⟩
theorem PrV.drop {w : World} {b o N c m : Nat} {L : Prs} (h : PrV w (.slice (some ⟨b, o, none⟩) N c) L) (hm : m ≤ N) : PrV w (.slice (some ⟨b, o + m * 2, none⟩) (N - m) (c - m)) (L.drop m) := by
 rcases h with ⟨b', o', c', e, h2, h3, h4, h5⟩ | ⟨h1, A, c', e, hm'⟩
 ·injection e with e1 e2 e3
  injection e1 with e1
  injection e1 with e1 e4
  subst e1 e3 e4
  refine .inl ⟨b, o + m * 2, c - m, by rw [List.length_drop, e2], fun i p hp => ?_, h3, by rw [List.length_drop]; omega, by omega⟩
  rw [List.getElem?_drop] at hp
  obtain ⟨s, k1, k2, k3⟩ := h2 (m + i) p hp
  rw [show o + (m + i) * 2 = o + m * 2 + i * 2 by omega] at k1 k3
  exact ⟨s, k1, k2, k3⟩
 ·injection e with e1 e2 e3
  exact .inr ⟨by rw [h1]; simp, some ⟨b, o + m * 2, none⟩, c - m, by rw [show N - m = 0 by omega], by omega⟩
set_option maxHeartbeats 2000000 in
set_option maxRecDepth 100000 in
theorem map_big {w : World} {b o N c : Nat} {L : Prs} (hv : PrV w (.slice (some ⟨b, o, none⟩) N c) L) (hN : L.length = N) (h2 : 2 ≤ N) (hb : N ≤ 1099511627776) (hs : ∀ p, p ∈ L → p.1.length ≤ 2147483647)
  (ih : ∀ {w : World} {v : Value} {L1 : Prs}, L1.length < N → PrV w v L1 → (∀ p, p ∈ L1 → p.1.length ≤ 2147483647) → Calls Tryz.prog 14 #[v] w fun e w' => MapPost w L1 e w') :
  Calls Tryz.prog 14 #[.slice (some ⟨b, o, none⟩) N c] w fun e w' => MapPost w L e w' := by
 obtain ⟨m, hm⟩ : ∃ m, Hid (N / 2 = m) := ⟨_, Lib.hid rfl⟩
 have hm' := hm.out
 have hcN : N ≤ c := by obtain ⟨A, c', e, k1, k2⟩ := hv.len; injection e with _ _ e; subst e; omega
 have e1 : ¬ (N : Int) < 2 := by omega
 have e2 : (N : Int) / 2 = (m : Int) := by omega
 have e2b : (N : Int).tdiv 2 = (m : Int) := by rw [Int.tdiv_eq_ediv_of_nonneg (by omega)]; exact e2
 have e3 : IntKind.i64.wrap (m : Int) = (m : Int) := IntWalk.i64_in _ (by omega)
 have e4 : (m : Int) ≤ (N : Int) := by omega
 have e5 : (m : Int) ≤ (c : Int) := by omega
 have e6 : ¬ c = m := by omega
 have e7 : (N : Int) ≤ (c : Int) := by omega
 have HC1 : Hid (∀ W, Fr (fun _ => False) w W → Calls Tryz.prog 14 #[.slice (some ⟨b, o, none⟩) m c] W fun e w' => MapPost W (L.take m) e w') := Lib.hid (fun W hF => ih (by rw [List.length_take]; omega) ((hv.fr hF).take (by omega)) (fun p hp => hs p (List.mem_of_mem_take hp)))
 have HC2 : Hid (∀ W, Fr (fun _ => False) w W → Calls Tryz.prog 14 #[.slice (some ⟨b, o + m * 2, none⟩) (N - m) (c - m)] W fun e w' => MapPost W (L.drop m) e w') := Lib.hid (fun W hF => ih (by rw [List.length_drop]; omega) ((hv.fr hF).drop (by omega)) (fun p hp => hs p (List.mem_of_mem_drop hp)))
 have HL := Lib.hid (And.intro hN (And.intro h2 (And.intro hb hs)))
 clear ih hv hN h2 hb hs hm' hcN
 go_enter Tryz.func14, Tryz.ntmps14
 go_upto_region 3 with fail
 go_cut [3, 4] from 14 to 25 (fun s3 s4 wx => ∃ SA SB, prsOf SA = mapP (L.take m) ∧ prsOf SB = mapP (L.drop m) ∧ PrO wx w.heap.size s3 SA ∧ PrO wx w.heap.size s4 SB ∧ Fr (fun _ => False) w wx)
 case first =>
  refine wp_region_fork (by kernel_rfl) ?_
  refine anyF_pre (n := 4) (l' := #[true, true, true, true, true, false, true, true, true, true, true, false, false, false]) (T := fun a w => anyF Tryz.prog .any _ _ 4 #[true, true, true, true, true, false, true, true, true, true, true, false, false, false] a w) (by kernel_rfl) (fun c a d v w h => by cases d <;> exact h) (fun _ _ h => h) [0, 1, 2, 3, 4, 6, 7, 8, 9, 10] _ _ _ (by kernel_rfl) ?_
  iterate 3 (apply preV_pure (ho := rfl) (hg := rfl); (intro w'; go_simp; rfl))
  go_simp
  iterate 2 (apply preV_pure (ho := rfl) (hg := rfl); (intro w'; go_simp; rfl))
  go_simp
  iterate 3 (apply preV_pure (ho := rfl) (hg := rfl); (intro w'; go_simp; rfl))
  go_simp
  iterate 2 (apply preV_pure (ho := rfl) (hg := rfl); (intro w'; go_simp; rfl))
  unfold preV
  go_simp
  refine anyF_fork (i := 5) (L := []) (by kernel_rfl) ?_
  intro j hj
  obtain rfl : j = 5 := by simpa using hj
  refine wpOp_run rfl ?_
  go_simp
  refine (HC1.out _ (Fr.refl (fun _ => False) w).drew).mono ?_
  rintro e w1 ⟨vA, SA, rfl, eA, hA, hFA⟩
  go_simp
  refine anyF_fork (i := 11) (L := []) (by kernel_rfl) ?_
  intro j hj
  obtain rfl : j = 11 := by simpa using hj
  refine wpOp_run rfl ?_
  go_simp
  refine (HC2.out _ ((Fr.refl (fun _ => False) w).drew.trans hFA (fun _ _ h => h))).mono ?_
  rintro e w2 ⟨vB, SB, rfl, eB, hB, hFB⟩
  go_simp
  refine anyF_fork (i := 12) (L := []) (by kernel_rfl) ?_
  intro j hj
  obtain rfl : j = 12 := by simpa using hj
  refine wpOp_run rfl ?_
  go_simp
  refine anyF_fork (i := 13) (L := []) (by kernel_rfl) ?_
  intro j hj
  obtain rfl : j = 13 := by simpa using hj
  refine wpOp_run rfl ?_
  go_simp
  refine anyF_end (by kernel_rfl) ?_
  go_wp2_with fail
  go_meet
  have hF1 : Fr (fun _ => False) w w1 := (Fr.refl (fun _ => False) w).drew.trans hFA (fun _ _ h => h)
  have hF2 : Fr (fun _ => False) w w2 := hF1.trans hFB (fun _ _ h => h)
  exact ⟨SA, SB, eA, eB, (hA.fr hFB (fun _ _ h => h)).mono (Nat.le_refl _), hB.mono hF1.size, hF2⟩
 case rest =>
 obtain ⟨SA, SB, eA, eB, hA, hB, hF⟩ := hcut
 obtain ⟨AA, cA, rfl⟩ : ∃ A cA, u3 = .slice A SA.length cA := by obtain ⟨full, k1, _⟩ := hA.ex; exact rowv k1
 obtain ⟨AB, cB, rfl⟩ : ∃ A cA, u4 = .slice A SB.length cA := by obtain ⟨full, k1, _⟩ := hB.ex; exact rowv k1
 have hlA : SA.length ≤ m := by
  have h1 := (mapP_ok _ (L.take m) (Nat.le_refl _)).2.2.2
  rw [← eA, List.length_take] at h1
  simp [prsOf] at h1; omega
 have hlB : SB.length ≤ N - m := by
  have h1 := (mapP_ok _ (L.drop m) (Nat.le_refl _)).2.2.2
  rw [← eB, List.length_drop] at h1
  have := HL.out.1
  simp [prsOf] at h1; omega
 have hzA : ∀ (i : Nat) (s : ByteArray × Nat), SA[i]? = some s → s.1.size < 4611686018427387904 := fun i s hs => by
  have h1 := (mapP_ok _ (L.take m) (Nat.le_refl _)).2.1 (bytesOf s.1, s.2) (by rw [← eA]; exact List.mem_map.2 ⟨s, List.mem_of_getElem? hs, rfl⟩)
  have h2 := HL.out.2.2.2 _ (List.mem_of_mem_take h1)
  simp only [bytesOf_len] at h2; omega
 have HS := Lib.hid (And.intro hA (And.intro hB (And.intro hF (And.intro eA (And.intro eB (And.intro hlA (And.intro hlB hzA)))))))
 obtain ⟨nA, hnA⟩ : ∃ nA, Hid (SA.length = nA) := ⟨_, Lib.hid rfl⟩
 obtain ⟨nB, hnB⟩ : ∃ nB, Hid (SB.length = nB) := ⟨_, Lib.hid rfl⟩
 rw [hnA.out, hnB.out]
 have HN40 : Hid (nA + nB ≤ 1099511627776) := Lib.hid (by rw [hnA.out] at hlA; rw [hnB.out] at hlB; have := HL.out.2.2.1; have := hm.out; omega)
 have H0 : Hid (PrO wc wc.heap.size (.slice none 0 0) []) := Lib.hid ⟨[], .inl ⟨rfl, rfl, rfl⟩, rfl, fun b hb => by simp [Value.ownBlock] at hb⟩
 clear hA hB hF eA eB hlA hlB hzA e1 e2 e2b e3 e4 e5 e6 e7
 go_wp2_with fail
 go_loopg [6, 7, 5] (nA + nB + 1) (fun g ti tk tv wx => ∃ (i k : Nat) (O : List (ByteArray × Nat)), i ≤ nA ∧ k ≤ nB ∧ g = (nA - i) + (nB - k) + 1 ∧ ti = .int .i64 (i : Int) ∧ tk = .int .i64 (k : Int) ∧ PrO wx wc.heap.size tv O ∧ O.length ≤ i + k ∧ prsOf O ++ mm ((prsOf SA).drop i) ((prsOf SB).drop k) = mm (prsOf SA) (prsOf SB) ∧ Fr (fun _ => False) wc wx)
 case atStart => exact ⟨0, 0, [], by omega, by omega, by omega, rfl, rfl, H0.out, by simp, by simp [prsOf], Fr.refl _ _⟩
 case round =>
  obtain ⟨i, k, O, hi, hk, hg, rfl, rfl, hO, hOl, hmm, hFx⟩ := hrel
  obtain ⟨fullO, hRow, htk, hbs⟩ := hO.ex
  obtain ⟨AO, cO, rfl⟩ := rowv hRow
  have HX := Lib.hid (And.intro hO (And.intro hOl (And.intro hmm (And.intro hFx (And.intro htk (And.intro hbs (And.intro hRow (And.intro hg (And.intro hi hk)))))))))
  obtain ⟨lO, hlO⟩ : ∃ lO, Hid (O.length = lO) := ⟨_, Lib.hid rfl⟩
  rw [hlO.out] at hRow ⊢
  clear hO hOl hmm hFx htk hbs hg H0
  by_cases hend : i = nA ∧ k = nB
  ·obtain ⟨rfl, rfl⟩ := hend
   have d1 : ¬ (i : Int) < (i : Int) := by omega
   have d2 : ¬ (k : Int) < (k : Int) := by omega
   clear hRow
   go_wp2_with fail
   go_ret
   obtain ⟨hO, hOl, hmm, hFx, htk, hbs, hRow, hg, hi, hk⟩ := HX.out
   obtain ⟨hA, hB, hF, eA, eB, _⟩ := HS.out
   refine ⟨.slice AO lO cO, O, rfl, ?_, by rw [← hlO.out]; exact hO.mono hF.size, hF.trans hFx (fun _ _ h => h)⟩
   rw [List.drop_of_length_le (by rw [← hnA.out]; simp [prsOf]), List.drop_of_length_le (by rw [← hnB.out]; simp [prsOf])] at hmm
   simp only [mm, List.append_nil] at hmm
   rw [hmm, eA, eB, mapP_big (l := L) (by have := HL.out.1; have := HL.out.2.1; omega), HL.out.1, hm.out]
  ·by_cases hkB : k = nB
   ·have hiA : i < nA := by omega
    have d1 : (i : Int) < (nA : Int) := by omega
    have d2 : ((k : Int) == (nB : Int)) = true := by rw [hkB]; simp
    obtain ⟨s, hs⟩ : ∃ s, SA[i]? = some s := ⟨_, List.getElem?_eq_getElem (by rw [hnA.out]; exact hiA)⟩
    obtain ⟨gA, cA', q1, a1, a2⟩ := (HS.out.1.fr HX.out.2.2.2.1 (fun _ _ h => h)).at_ hs
    rw [hnA.out] at q1
    injection q1 with q1 q2 q3
    subst q1 q3
    clear q2
    obtain ⟨s1, z1⟩ := s
    simp only at a1 a2
    have HI := Lib.hid (And.intro hiA (And.intro hkB hs))
    have HStep : Hid (mm ((prsOf SA).drop i) ((prsOf SB).drop k) = (bytesOf s1, z1) :: mm ((prsOf SA).drop (i + 1)) ((prsOf SB).drop k)) := Lib.hid (by rw [drop_prs hs, prs_end (i := k) (by rw [hnB.out]; omega), mm_nil, mm_nil])
    clear hiA hkB hend hi hk hs
    go_wp2_with fail
    go_quiet (fail)
    rename_i nq
    have b1 : (wr.drewN nq).cell? ⟨gA, i * 2, none⟩ = some (.string s1) := a1
    have b2 : (wr.drewN nq).cell? ⟨gA, i * 2 + 1, none⟩ = some (.int .u64 (z1 : Int)) := a2
    have hRow' : RowF (wr.drewN nq) 42 2 (.slice AO lO cO) lO fullO := hRow.fr ((Fr.refl (fun _ => False) wr).drewN nq) (fun _ _ h => h)
    have e9 : IntKind.i64.wrap ((i : Int) + 1) = ((i + 1 : Nat) : Int) := by have := HI.out.1; have := HN40.out; rw [IntWalk.i64_in _ (by omega)]; omega
    have HRow := Lib.hid hRow'
    clear a1 a2 hRow hRow'
    go_wp2_with (at_builtin; (refine app1f (wr.drewN (nq)) (wr.drewN (nq)).heap.size rfl rfl _ _ 26 rfl 42 (.agg #[.string ⟨#[]⟩, .int .u64 0]) 2 24 (by kernel_rfl) (by kernel_rfl) rfl (.slice AO lO cO) lO fullO [.string s1, .int .u64 (z1 : Int)] rfl rfl HRow.out rfl (by simp [Value.oneCell']) (by have := HX.out.2.1; have := hlO.out; have := HX.out.2.2.2.2.2.2.2.2; have := HN40.out; omega) (by decide) ?_); intro v' w5 full' hr5 hF5 hc5)
    go_roundg ((nA - (i + 1)) + (nB - (k)) + 1)
    case measure => have := HX.out.2.2.2.2.2.2.2.1; have := HI.out.1; have := HX.out.2.2.2.2.2.2.2.2; omega
    case rel =>
     obtain ⟨hO, hOl, hmm, hFx, htk, hbs, hRow0, hg, hi, hk⟩ := HX.out
     have hFd : Fr (fun _ => False) wc (wr.drewN (nq)) := hFx.drewN _
     have hO5 := PrO.app (w := wr.drewN (nq)) (w5 := w5) (base := wc.heap.size) (v := .slice AO lO cO) (v' := v') (O := O) (s := (s1, z1)) (full := fullO) (full' := full') (by rw [hlO.out]; exact HRow.out) htk (by rw [← hlO.out]; exact hbs) hFd.size (by rw [hlO.out]; exact hr5) (by rw [hlO.out]; exact hc5)
     refine ⟨i + 1, k, O ++ [(s1, z1)], by have := HI.out.1; omega, by have := HI.out.1; omega, rfl, by simp, by simp, hO5, by rw [List.length_append]; simp; omega, ?_, hFd.trans hF5 (fun x hx h => by have := hbs x (by rw [hlO.out]; exact h); omega)⟩
     have e : prsOf (O ++ [(s1, z1)]) = prsOf O ++ [(bytesOf s1, z1)] := by simp [prsOf]
     rw [e, List.append_assoc, ← hmm, HStep.out]
     rfl
   ·have hkB' : k < nB := by omega
    have d2 : ((k : Int) == (nB : Int)) = false := by simp; omega
    have d1 : (k : Int) < (nB : Int) := by omega
    obtain ⟨s', hs'⟩ : ∃ s, SB[k]? = some s := ⟨_, List.getElem?_eq_getElem (by rw [hnB.out]; exact hkB')⟩
    obtain ⟨gB, cB', p1, c1, c2⟩ := (HS.out.2.1.fr HX.out.2.2.2.1 (fun _ _ h => h)).at_ hs'
    rw [hnB.out] at p1
    injection p1 with p1 p2 p3
    subst p1 p3
    clear p2
    by_cases hiA : i < nA
    ·have d3 : (i : Int) < (nA : Int) := by omega
     obtain ⟨s, hs⟩ : ∃ s, SA[i]? = some s := ⟨_, List.getElem?_eq_getElem (by rw [hnA.out]; exact hiA)⟩
     obtain ⟨gA, cA', q1, a1, a2⟩ := (HS.out.1.fr HX.out.2.2.2.1 (fun _ _ h => h)).at_ hs
     rw [hnA.out] at q1
     injection q1 with q1 q2 q3
     subst q1 q3
     clear q2
     have hz := HS.out.2.2.2.2.2.2.2 i s hs
     obtain ⟨s1, z1⟩ := s
     simp only at a1 a2 hz
     have hq : ∀ n, Calls Tryz.prog 25 #[.string s1, .string s'.1] (wr.drewN n) fun e w'' => e = .returned (.bool (ltb (bytesOf s1) (bytesOf s'.1))) ∧ ∃ m, w'' = wr.drewN m := fun n => by
      refine (less_quiet (wr.drewN n) s1 s'.1 hz).mono ?_
      rintro e w2 ⟨rfl, m, rfl⟩
      exact ⟨rfl, n + m, by simp [World.drewN, Nat.add_assoc]⟩
     clear hz
     cases hr : ltb (bytesOf s1) (bytesOf s'.1) with
     | true =>
      rw [hr] at hq
      have HI := Lib.hid (And.intro hiA (And.intro hkB' (And.intro hs hs')))
      have HStep : Hid (mm ((prsOf SA).drop i) ((prsOf SB).drop k) = (bytesOf s1, z1) :: mm ((prsOf SA).drop (i + 1)) ((prsOf SB).drop k)) := Lib.hid (by rw [drop_prs hs, drop_prs hs']; rw [mm]; rw [if_pos hr])
      clear hkB hkB' hend hi hk hs hs' hiA hr
      go_wp2_with fail
      go_quiet ((go_at_call 25; exact hq _))
      rename_i nq
      have b1 : (wr.drewN nq).cell? ⟨gA, i * 2, none⟩ = some (.string s1) := a1
      have b2 : (wr.drewN nq).cell? ⟨gA, i * 2 + 1, none⟩ = some (.int .u64 (z1 : Int)) := a2
      have HFW := Lib.hid ((Fr.refl (fun _ => False) wr).drewN nq)
      have hRow' : RowF (wr.drewN nq) 42 2 (.slice AO lO cO) lO fullO := hRow.fr HFW.out (fun _ _ h => h)
      have HRow := Lib.hid hRow'
      clear a1 a2 c1 c2 hRow hRow'
      have e9 : IntKind.i64.wrap ((i : Int) + 1) = ((i + 1 : Nat) : Int) := by have := HI.out.1; have := HN40.out; rw [IntWalk.i64_in _ (by omega)]; omega
      go_wp2_with (at_builtin; (refine app1f (wr.drewN nq) (wr.drewN nq).heap.size rfl rfl _ _ 26 rfl 42 (.agg #[.string ⟨#[]⟩, .int .u64 0]) 2 24 (by kernel_rfl) (by kernel_rfl) rfl (.slice AO lO cO) lO fullO [.string s1, .int .u64 (z1 : Int)] rfl rfl HRow.out rfl (by simp [Value.oneCell']) (by have := HX.out.2.1; have := hlO.out; have := HX.out.2.2.2.2.2.2.2.2; have := HN40.out; omega) (by decide) ?_); intro v' w5 full' hr5 hF5 hc5)
      go_roundg ((nA - (i + 1)) + (nB - (k)) + 1)
      case measure => have := HX.out.2.2.2.2.2.2.2.1; have := HI.out.1; have := HX.out.2.2.2.2.2.2.2.2; omega
      case rel =>
       obtain ⟨hO, hOl, hmm, hFx, htk, hbs, hRow0, hg, hi, hk⟩ := HX.out
       have hFd : Fr (fun _ => False) wc (wr.drewN nq) := hFx.trans HFW.out (fun _ _ h => h)
       have hO5 := PrO.app (w := wr.drewN nq) (w5 := w5) (base := wc.heap.size) (v := .slice AO lO cO) (v' := v') (O := O) (s := (s1, z1)) (full := fullO) (full' := full') (by rw [hlO.out]; exact HRow.out) htk (by rw [← hlO.out]; exact hbs) hFd.size (by rw [hlO.out]; exact hr5) (by rw [hlO.out]; exact hc5)
       refine ⟨i + 1, k, O ++ [(s1, z1)], by have := HI.out.1; omega, by have := HI.out.1; omega, rfl, by simp, by simp, hO5, by rw [List.length_append]; simp; omega, ?_, hFd.trans hF5 (fun x hx h => by have := hbs x (by rw [hlO.out]; exact h); omega)⟩
       have e : prsOf (O ++ [(s1, z1)]) = prsOf O ++ [(bytesOf s1, z1)] := by simp [prsOf]
       rw [e, List.append_assoc, ← hmm, HStep.out]
       rfl
     | false =>
      rw [hr] at hq
      by_cases heq : s1 = s'.1
      ·subst heq
       have HI := Lib.hid (And.intro hiA (And.intro hkB' (And.intro hs hs')))
       have HStep : Hid (mm ((prsOf SA).drop i) ((prsOf SB).drop k) = mm ((prsOf SA).drop (i + 1)) ((prsOf SB).drop k)) := Lib.hid (by rw [drop_prs hs, drop_prs hs']; rw [mm]; rw [if_neg (by rw [hr]; decide), if_pos rfl])
       clear hkB hkB' hend hi hk hs hs' hiA hr
       have e9 : IntKind.i64.wrap ((i : Int) + 1) = ((i + 1 : Nat) : Int) := by have := HI.out.1; have := HN40.out; rw [IntWalk.i64_in _ (by omega)]; omega
       go_wp2_with fail
       go_quiet ((go_at_call 25; exact hq _))
       rename_i nq
       go_upto_region 12 with fail
       refine wp_named (fun X => Fr (fun _ => False) wr X) ((Fr.refl (fun _ => False) wr).drewN nq) ?_
       intro X hFX
       have HFX := Lib.hid hFX
       have u1 := hFX.cell a1 (fun h => h)
       have x1 := hFX.cell c1 (fun h => h)
       have x2 := hFX.cell c2 (fun h => h)
       clear hFX c1 c2 a1 a2
       go_quiet (fail)
       have HFW := Lib.hid (HFX.out.drewN nq)
       clear x1 x2 u1
       go_wp2_with fail
       go_roundg ((nA - (i + 1)) + (nB - k) + 1)
       case measure => have := HX.out.2.2.2.2.2.2.2.1; have := HI.out.1; have := HX.out.2.2.2.2.2.2.2.2; omega
       case rel =>
        obtain ⟨hO, hOl, hmm, hFx, htk, hbs, hRow0, hg, hi, hk⟩ := HX.out
        refine ⟨i + 1, k, O, by have := HI.out.1; omega, by omega, rfl, by simp, rfl, by rw [← hlO.out]; exact hO.fr HFW.out (fun _ _ h => h), by omega, ?_, hFx.trans HFW.out (fun _ _ h => h)⟩
        rw [← hmm, HStep.out]
      ·obtain ⟨s2, z2⟩ := s'
       simp only at c1 c2 hq hr heq
       have HI := Lib.hid (And.intro hkB' (And.intro hiA (And.intro hs hs')))
       have HStep : Hid (mm ((prsOf SA).drop i) ((prsOf SB).drop k) = (bytesOf s2, z2) :: mm ((prsOf SA).drop i) ((prsOf SB).drop (k + 1))) := Lib.hid (by
        rw [drop_prs hs, drop_prs hs']
        rw [mm]
        rw [if_neg (by simp only; rw [hr]; decide), if_neg (fun e => heq (bytesOf_inj e))])
       have heqb := str_ne heq
       have e9 : IntKind.i64.wrap ((k : Int) + 1) = ((k + 1 : Nat) : Int) := by have := HN40.out; rw [IntWalk.i64_in _ (by omega)]; omega
       clear hkB hkB' hend hi hk hs hs' hiA hr heq
       go_wp2_with fail
       go_quiet ((go_at_call 25; exact hq _))
       rename_i nq
       go_upto_region 12 with fail
       refine wp_named (fun X => Fr (fun _ => False) wr X) ((Fr.refl (fun _ => False) wr).drewN nq) ?_
       intro X hFX
       have HFX := Lib.hid hFX
       have u1 := hFX.cell a1 (fun h => h)
       have x1 := hFX.cell c1 (fun h => h)
       have x2 := hFX.cell c2 (fun h => h)
       clear hFX c1 c2 a1 a2
       go_quiet (fail)
       have y1 : (X.drewN nq).cell? ⟨gB, k * 2, none⟩ = some (.string s2) := x1
       have y2 : (X.drewN nq).cell? ⟨gB, k * 2 + 1, none⟩ = some (.int .u64 (z2 : Int)) := x2
       have HFW := Lib.hid (HFX.out.drewN nq)
       have hRow' : RowF (X.drewN nq) 42 2 (.slice AO lO cO) lO fullO := hRow.fr HFW.out (fun _ _ h => h)
       have HRow := Lib.hid hRow'
       clear x1 x2 u1 hRow hRow'
       go_wp2_with (at_builtin; (refine app1f (X.drewN nq) (X.drewN nq).heap.size rfl rfl _ _ 26 rfl 42 (.agg #[.string ⟨#[]⟩, .int .u64 0]) 2 24 (by kernel_rfl) (by kernel_rfl) rfl (.slice AO lO cO) lO fullO [.string s2, .int .u64 (z2 : Int)] rfl rfl HRow.out rfl (by simp [Value.oneCell']) (by have := HX.out.2.1; have := hlO.out; have := HX.out.2.2.2.2.2.2.2.2; have := HN40.out; omega) (by decide) ?_); intro v' w5 full' hr5 hF5 hc5)
       go_roundg ((nA - (i)) + (nB - (k + 1)) + 1)
       case measure => have := HX.out.2.2.2.2.2.2.2.1; have := HI.out.1; have := HX.out.2.2.2.2.2.2.2.2; omega
       case rel =>
        obtain ⟨hO, hOl, hmm, hFx, htk, hbs, hRow0, hg, hi, hk⟩ := HX.out
        have hFd : Fr (fun _ => False) wc (X.drewN nq) := hFx.trans HFW.out (fun _ _ h => h)
        have hO5 := PrO.app (w := X.drewN nq) (w5 := w5) (base := wc.heap.size) (v := .slice AO lO cO) (v' := v') (O := O) (s := (s2, z2)) (full := fullO) (full' := full') (by rw [hlO.out]; exact HRow.out) htk (by rw [← hlO.out]; exact hbs) hFd.size (by rw [hlO.out]; exact hr5) (by rw [hlO.out]; exact hc5)
        refine ⟨i, k + 1, O ++ [(s2, z2)], by have := HI.out.1; omega, by have := HI.out.1; omega, rfl, by simp, by simp, hO5, by rw [List.length_append]; simp; omega, ?_, hFd.trans hF5 (fun x hx h => by have := hbs x (by rw [hlO.out]; exact h); omega)⟩
        have e : prsOf (O ++ [(s2, z2)]) = prsOf O ++ [(bytesOf s2, z2)] := by simp [prsOf]
        rw [e, List.append_assoc, ← hmm, HStep.out]
        rfl
    ·have hiA' : i = nA := by omega
     have d3 : ¬ (i : Int) < (nA : Int) := by omega
     have d3b : decide ((i : Int) < (nA : Int)) = false := by rw [decide_eq_false_iff_not]; exact d3
     obtain ⟨s1, z1⟩ := s'
     simp only at c1 c2
     have HI := Lib.hid (And.intro hkB' (And.intro hiA' hs'))
     have HStep : Hid (mm ((prsOf SA).drop i) ((prsOf SB).drop k) = (bytesOf s1, z1) :: mm ((prsOf SA).drop i) ((prsOf SB).drop (k + 1))) := Lib.hid (by rw [drop_prs hs', prs_end (i := i) (by rw [hnA.out]; omega), mm_left, mm_left])
     clear hkB hkB' hend hi hk hs' hiA hiA'
     go_wp2_with fail
     have d4 : ¬ (i : Int) < (nA : Int) := by have := HI.out.2.1; omega
     have d5 : decide ((i : Int) < (nA : Int)) = false := by rw [decide_eq_false_iff_not]; exact d4
     go_quiet (fail)
     rename_i nq
     go_upto_region 12 with fail
     refine wp_named (fun X => Fr (fun _ => False) wr X) ((Fr.refl (fun _ => False) wr).drewN nq) ?_
     intro X hFX
     have HFX := Lib.hid hFX
     have x1 := hFX.cell c1 (fun h => h)
     have x2 := hFX.cell c2 (fun h => h)
     clear hFX c1 c2
     have d6 : ¬ (i : Int) < (nA : Int) := by have := HI.out.2.1; omega
     go_quiet (fail)
     have y1 : (X.drewN nq).cell? ⟨gB, k * 2, none⟩ = some (.string s1) := x1
     have y2 : (X.drewN nq).cell? ⟨gB, k * 2 + 1, none⟩ = some (.int .u64 (z1 : Int)) := x2
     have HFW := Lib.hid (HFX.out.drewN nq)
     have hRow' : RowF (X.drewN nq) 42 2 (.slice AO lO cO) lO fullO := hRow.fr HFW.out (fun _ _ h => h)
     have HRow := Lib.hid hRow'
     clear x1 x2 hRow hRow'
     have e9 : IntKind.i64.wrap ((k : Int) + 1) = ((k + 1 : Nat) : Int) := by have := HI.out.1; have := HN40.out; rw [IntWalk.i64_in _ (by omega)]; omega
     go_wp2_with (at_builtin; (refine app1f (X.drewN nq) (X.drewN nq).heap.size rfl rfl _ _ 26 rfl 42 (.agg #[.string ⟨#[]⟩, .int .u64 0]) 2 24 (by kernel_rfl) (by kernel_rfl) rfl (.slice AO lO cO) lO fullO [.string s1, .int .u64 (z1 : Int)] rfl rfl HRow.out rfl (by simp [Value.oneCell']) (by have := HX.out.2.1; have := hlO.out; have := HX.out.2.2.2.2.2.2.2.2; have := HN40.out; omega) (by decide) ?_); intro v' w5 full' hr5 hF5 hc5)
     go_roundg ((nA - (i)) + (nB - (k + 1)) + 1)
     case measure => have := HX.out.2.2.2.2.2.2.2.1; have := HI.out.1; have := HX.out.2.2.2.2.2.2.2.2; omega
     case rel =>
      obtain ⟨hO, hOl, hmm, hFx, htk, hbs, hRow0, hg, hi, hk⟩ := HX.out
      have hFd : Fr (fun _ => False) wc (X.drewN nq) := hFx.trans HFW.out (fun _ _ h => h)
      have hO5 := PrO.app (w := X.drewN nq) (w5 := w5) (base := wc.heap.size) (v := .slice AO lO cO) (v' := v') (O := O) (s := (s1, z1)) (full := fullO) (full' := full') (by rw [hlO.out]; exact HRow.out) htk (by rw [← hlO.out]; exact hbs) hFd.size (by rw [hlO.out]; exact hr5) (by rw [hlO.out]; exact hc5)
      refine ⟨i, k + 1, O ++ [(s1, z1)], by have := HI.out.1; omega, by have := HI.out.1; omega, rfl, by simp, by simp, hO5, by rw [List.length_append]; simp; omega, ?_, hFd.trans hF5 (fun x hx h => by have := hbs x (by rw [hlO.out]; exact h); omega)⟩
      have e : prsOf (O ++ [(s1, z1)]) = prsOf O ++ [(bytesOf s1, z1)] := by simp [prsOf]
      rw [e, List.append_assoc, ← hmm, HStep.out]
      rfl
theorem map_calls : ∀ (n : Nat) {w : World} {v : Value} {L : Prs}, L.length ≤ n → PrV w v L → L.length ≤ 1099511627776 → (∀ p, p ∈ L → p.1.length ≤ 2147483647) → Calls Tryz.prog 14 #[v] w fun e w' => MapPost w L e w' := by
 intro n
 induction n with
 | zero =>
  intro w v L hn hv _ _
  have : L = [] := List.length_eq_zero_iff.1 (by omega)
  subst this
  exact map_none hv
 | succ n ih =>
  intro w v L hn hv hb hs
  rcases L with _ | ⟨p, _ | ⟨q, L⟩⟩
  ·exact map_none hv
  ·exact map_one hv
  ·rcases hv with ⟨b, o, c, rfl, h2, h3, h4, h5⟩ | ⟨h1, _⟩
   ·exact map_big (N := (p :: q :: L).length) (.inl ⟨b, o, c, rfl, h2, h3, h4, h5⟩) rfl (by simp) hb hs (fun hl hv hs => ih (by simp at hl hn; omega) hv (by simp at hl hb; omega) hs)
   ·cases h1
end
section
open Go.RowKit Fmt
theorem function_calls (w : World) {how : Nat} (hh : how ≤ 2) : Calls Tryz.prog 19 #[.int .i64 (how : Int)] w fun e w' => e = .returned (.func (.func (fnOf how)) #[] #[]) ∧ w' = w := by
 rcases (by omega : how = 0 ∨ how = 1 ∨ how = 2) with rfl | rfl | rfl
 ·go_enter Tryz.func19, Tryz.ntmps19
  go_wp2_with fail
  go_ret
  exact ⟨rfl, rfl⟩
 ·go_enter Tryz.func19, Tryz.ntmps19
  go_wp2_with fail
  go_ret
  exact ⟨rfl, rfl⟩
 ·go_enter Tryz.func19, Tryz.ntmps19
  go_wp2_with fail
  go_ret
  exact ⟨rfl, rfl⟩
end
end Go.Proofs.YtmhlnijpimjjaaaGreatDoor
