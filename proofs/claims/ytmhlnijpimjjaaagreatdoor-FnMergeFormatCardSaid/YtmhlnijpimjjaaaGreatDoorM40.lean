/- The reference goes through all states, by induction on the address. Condition: keys of at most 400 bytes, at most 65536 pairs. The reference's DecodedMap (f10). Condition: keys of at most 400 bytes, at most 65536 pairs. The law's plain side: what Short says of the merged map, the maps are fine. No condition. The law FnMergeFormat (f3) answers true. Condition: the pairs' values are numbers of 64 bits, their keys are bytes, the variables are laid. -/
import Derived.Test.YtmhlnijpimjjaaaGreatDoorM39
import Derived.Test.YtmhlnijpimjjaaaGreatDoorM35
import Derived.Test.YtmhlnijpimjjaaaGreatDoorM37
set_option linter.unusedSimpArgs false
set_option linter.unusedVariables false
namespace Go.Proofs.YtmhlnijpimjjaaaGreatDoor
section
open Go.RowKit Fmt
theorem view_arcs {D : List Nat} {a : Nat} {s : Nd} (h : View D a s) : (∀ x, x ∈ s.arcs → x.1 < 256) ∧ s.arcs.length ≤ 65536 := by
 rcases h with ⟨rfl, rfl⟩ | ⟨h0, S, h16, hSa, ha, hby, hinc, hb, hfo, hcase⟩
 ·simp
 ·refine ⟨fun x hx => (hb x hx).1, ?_⟩
  rcases hcase with ⟨i, o, t, rfl, _⟩ | h1
  ·simp
  ·obtain ⟨h', k, t, u, e1, e2, e3, e4, e5, -⟩ := h1.ex
   rcases e5 with ⟨_, _, e⟩ | ⟨_, _, x, _, hx, e⟩
   ·omega
   ·rw [e]; split <;> omega
theorem walk_calls {base wb gd n cap gb : Nat} {D B : List Nat} {L : Prs} {root : Nat} (hf : File codesN backN D L B root) : ∀ (m a : Nat), a < m → Ok codesN backN B a → ∀ {w : World} {ts : ByteArray} {sum : Nat} {SS : List (ByteArray × Nat)}, ts.size ≤ 400 → (∀ q, q ∈ keysAt (getB backN B) a → ts.size + q.1.length ≤ 400 ∧ sum + q.2 < 2 ^ 64) → SS.length + (keysAt (getB backN B) a).length ≤ 65536 → WkD w base gd n cap gb D → WkAt w base wb gd n cap gb SS →
  Calls Tryz.prog 23 #[.pointer (some ⟨wb, 0, none⟩), .int .i64 (a : Int), .string ts, .int .u64 (sum : Int)] w (WkPost w base wb gd n cap gb SS ts sum (keysAt (getB backN B) a)) := by
 intro m
 induction m with
 | zero => intro a h; omega
 | succ m ih =>
  intro a ham hok w ts sum SS hsz hq hl hD hW
  have hd := getB_down backN B
  have hk : keysAt (getB backN B) a = kown (keysAt (getB backN B)) (nodeOf (getB backN B) a) := keys_node _ hd a
  have hv := file_view hf hok
  have hlB : B.length < 2 ^ 64 := Nat.lt_trans hf.len (by decide)
  rw [hk] at hq hl ⊢
  refine walk_step hv (view_arcs hv).1 (fun x hx {w ts sum SS} h1 h2 h3 h4 => ?_) (fun x hx => (hok.to codesOk hlB hx).2) (view_arcs hv).2 hsz hq hl hD hW
  obtain ⟨k1, k2⟩ := hok.to codesOk hlB hx
  obtain ⟨q, hqm⟩ := List.exists_mem_of_ne_nil _ k2
  have hz := (h1 q hqm).1
  exact ih x.2.2 (by have := node_down hd hx; omega) k1 (by omega) h1 h2 h3 h4
end
section
open Go.RowKit Fmt
theorem file_cuts {D B : List Nat} {L : Prs} {root : Nat} (h : File codesN backN D L B root) : (∀ x, x ∈ cutN D 0 8 → x < 256) ∧ (∀ x, x ∈ cutN D 8 8 → x < 256) ∧ (∀ x, x ∈ cutN D (B.length + 8) 8 → x < 256) ∧ (∀ x, x ∈ cutN D B.length 8 → x < 256) := by
 have e : D = header ++ (B.drop 16 ++ (pk L.length 8 ++ pk root 8)) := by
  rw [← h.head, ← List.append_assoc (B.take 16), List.take_append_drop]; exact h.eq
 have e2 : D = [] ++ (pk 1 8 ++ (pk 0 8 ++ (B.drop 16 ++ (pk L.length 8 ++ pk root 8)))) := by rw [e]; simp [header]
 have e3 : D = pk 1 8 ++ (pk 0 8 ++ (B.drop 16 ++ (pk L.length 8 ++ pk root 8))) := by rw [e2]; rfl
 have e4 : D = (B ++ pk L.length 8) ++ (pk root 8 ++ []) := by rw [h.eq]; simp
 refine ⟨?_, ?_, ?_, ?_⟩
 ·have := cutN_at (A := []) (X := pk 1 8) (R := pk 0 8 ++ (B.drop 16 ++ (pk L.length 8 ++ pk root 8))) (p := 0) (n := 8) rfl (pk_len _ _)
  rw [e2, this]; exact pk_bytes _ _
 ·rw [e3, cutN_at (pk_len _ _) (pk_len _ _)]; exact pk_bytes _ _
 ·rw [e4, cutN_at (by simp [pk_len]) (pk_len _ _)]; exact pk_bytes _ _
 ·rw [h.eq, cutN_at rfl (pk_len _ _)]; exact pk_bytes _ _
def DcPost (w : World) (L : Prs) (e : Ending) (w' : World) : Prop := ∃ u SS, e = .returned (.tuple #[u, .bool true]) ∧ prsOf SS = L ∧ PrO w' w.heap.size u SS ∧ Fr (fun _ => False) w w'
theorem cut_calls8 {w : World} {g p c v : Nat} {D : List Nat} (hD : Byts w g 0 D) (hp : p + 8 ≤ D.length) (hb : ∀ x, x ∈ cutN D p 8 → x < 256) (hv : unp (cutN D p 8) = v) : Calls Tryz.prog 22 #[.slice (some ⟨g, p, none⟩) 8 c] w fun e w' => e = .returned (.int .u64 (v : Int)) ∧ w' = w := by
 subst hv
 exact unpacked_calls (hD.cut p 8 hp) (cutN_len hp) hb (by decide)
set_option maxHeartbeats 2000000 in
set_option maxRecDepth 100000 in
theorem decoded_calls {w : World} {g cap gb root : Nat} {D B : List Nat} {L : Prs} (hf : File codesN backN D L B root) (hD : Byts w g 0 D) (hg : g < w.heap.size) (hc : D.length ≤ cap) (hmx : cap ≤ maxLen) (hB : Blk w gb (u8s (bkL 256)) 5) (hk : ∀ p, p ∈ L → p.1.length ≤ 400 ∧ p.2 < 2 ^ 64) (hl : L.length ≤ 65536) :
  Calls Tryz.prog 10 #[.slice (some ⟨g, 0, none⟩) D.length cap, .slice (some ⟨gb, 0, none⟩) 64 64] w fun e w' => DcPost w L e w' := by
 have hdl := hf.dlen
 have h16 := hf.h16
 have hbl := hf.len
 have hrl := hf.root_lt
 have hcb := file_cuts hf
 obtain ⟨n, hn⟩ : ∃ n, Hid (D.length = n) := ⟨_, Lib.hid rfl⟩
 obtain ⟨p16, hp16⟩ : ∃ p, Hid (B.length = p) := ⟨_, Lib.hid rfl⟩
 obtain ⟨p8, hp8⟩ : ∃ p, Hid (B.length + 8 = p) := ⟨_, Lib.hid rfl⟩
 have c1 := cut_calls8 (c := cap) hD (p := 0) (by omega) hcb.1 hf.ver.1
 have c2 := cut_calls8 (c := cap - 8) hD (p := 8) (by omega) hcb.2.1 hf.ver.2
 have c3 := cut_calls8 (v := root) (c := cap - p8) hD (p := p8) (by have := hp8.out; omega) (by rw [← hp8.out]; exact hcb.2.2.1) (by rw [← hp8.out]; exact hf.rootAt)
 have c4 := cut_calls8 (v := L.length) (c := cap - p16) hD (p := p16) (by have := hp16.out; omega) (by rw [← hp16.out]; exact hcb.2.2.2) (by rw [← hp16.out]; exact hf.count)
 obtain ⟨nL, hnL⟩ : ∃ n, Hid (L.length = n) := ⟨_, Lib.hid rfl⟩
 rw [hnL.out] at c4
 have hn' := hn.out
 have hp16' := hp16.out
 have hp8' := hp8.out
 rw [hn.out] at hc hdl ⊢
 unfold maxLen at hmx
 have e1 : ¬ (n : Int) < 32 := by omega
 have e2 : (8 : Int) ≤ (cap : Int) := by omega
 have e3 : (16 : Int) ≤ (cap : Int) := by omega
 have e4 : IntKind.i64.wrap ((n : Int) - 8) = (p8 : Int) := by rw [IntWalk.i64_in _ (by omega)]; omega
 have e5 : IntKind.i64.wrap ((n : Int) - 16) = (p16 : Int) := by rw [IntWalk.i64_in _ (by omega)]; omega
 have e6 : (p8 : Int) ≤ (n : Int) := by omega
 have e7 : n - p8 = 8 := by omega
 have e8 : ¬ cap = p8 := by omega
 have e9 : ¬ cap = p16 := by omega
 have e10 : (p16 : Int) ≤ (p8 : Int) := by omega
 have e11 : (p8 : Int) ≤ (cap : Int) := by omega
 have e12 : p8 - p16 = 8 := by omega
 have e13 : IntKind.u64.wrap (n : Int) = (n : Int) := IntWalk.u64_in _ (by omega)
 have e14 : ¬ (n : Int) < (root : Int) := by omega
 have e15 : IntKind.i64.wrap (root : Int) = (root : Int) := IntWalk.i64_in _ (by omega)
 have e16 : ¬ cap = 8 := by omega
 have HH := Lib.hid (And.intro hf (And.intro hD (And.intro hg (And.intro hc (And.intro hmx (And.intro hB (And.intro hk hl)))))))
 clear hf hD hg hc hmx hB hk hl hcb hdl h16 hbl hrl hn' hp16' hp8'
 go_enter Tryz.func10, Tryz.ntmps10
 go_wp2_with fail
 refine c1.mono ?_
 rintro e w' ⟨rfl, rfl⟩
 clear c1
 go_wp2_with fail
 refine c2.mono ?_
 rintro e w' ⟨rfl, rfl⟩
 clear c2
 go_wp2_with fail
 refine c3.mono ?_
 rintro e w' ⟨rfl, rfl⟩
 clear c3
 go_wp2_with fail
 refine c4.mono ?_
 rintro e w' ⟨rfl, rfl⟩
 clear c4
 have hF0 : Fr (fun _ => False) w' (w'.alloc (.cells #[.slice (some ⟨g, 0, none⟩) n cap, .slice (some ⟨gb, 0, none⟩) 64 64, .slice none 0 0, .bool false] 66)) := (Fr.refl _ w').alloc _
 obtain ⟨hf, hD, hg, hc, hmx, hB, hk, hl⟩ := HH.out
 have hz : (⟨#[]⟩ : ByteArray).size = 0 := rfl
 have hwk := walk_calls (base := w'.heap.size) (wb := w'.heap.size) (gd := g) (n := n) (cap := cap) (gb := gb) hf (root + 1) root (by omega) hf.ok (w := w'.alloc (.cells #[.slice (some ⟨g, 0, none⟩) n cap, .slice (some ⟨gb, 0, none⟩) 64 64, .slice none 0 0, .bool false] 66)) (ts := ⟨#[]⟩) (sum := 0) (SS := []) (by decide) (fun q hq => by rw [hf.keys] at hq; have := hk q hq; rw [hz]; omega) (by rw [hf.keys]; simpa using hl) ⟨hD.fr hF0 (fun h => h), hn.out, hg, hc, by unfold maxLen; exact hmx, hB.fr hF0 (fun h => h), hB.lt, by simp⟩ ⟨⟨.slice none 0 0, Blk.new w' _ 66, ⟨[], .inl ⟨rfl, rfl, rfl⟩, rfl, fun b hb => by simp [Value.ownBlock] at hb⟩⟩, Nat.le_refl _⟩
 rw [hf.keys] at hwk
 have H0 := Lib.hid hF0
 clear hf hD hg hc hmx hB hk hl hF0 hz
 go_wp2_with fail
 refine hwk.mono ?_
 rintro e w4 ⟨rfl, SS, hS, hW, hF⟩
 obtain ⟨v, hb, hP⟩ := hW.ex
 rw [List.nil_append] at hP
 obtain ⟨full, hRow, -, -⟩ := id hP.ex
 obtain ⟨Av, cv, rfl⟩ := rowv hRow
 have hlen : SS.length = nL := by
  have h1 := congrArg List.length hS
  simp [prsOf, outp] at h1
  rw [h1]; exact hnL.out
 rw [hlen] at hb
 have r2 := hb.cell 2 rfl
 have r3 := hb.cell 3 rfl
 have hL16 : nL ≤ 65536 := by have := HH.out; have := hnL.out; omega
 have g1 : IntKind.u64.wrap (nL : Int) = (nL : Int) := IntWalk.u64_in _ (by omega)
 have HE := Lib.hid (And.intro hS (And.intro hP (And.intro hF hlen)))
 clear hwk hS hW hF hb hP hRow hlen hL16
 go_wp2_with fail
 go_quiet (fail)
 rename_i nq
 go_wp2_with fail
 go_ret2
 obtain ⟨hS, hP, hF, hlen⟩ := HE.out
 refine ⟨_, SS, rfl, ?_, ?_, ?_⟩
 ·rw [hS]; simp [outp, bytesOf]
 ·rw [← hlen]; exact hP.fr ((Fr.refl (fun _ => False) w4).drewN nq) (fun _ _ h => h)
 ·exact (H0.out.trans hF (fun k hk e => by have := e.1; omega)).drewN nq
end
section
open Go.RowKit Fmt
theorem strip_ok {L : Prs} (h : Srt L) : Srt (strip L) ∧ (∀ p, p ∈ strip L → p ∈ L ∧ p.1 ≠ []) ∧ (strip L).length ≤ L.length := by
 cases L with
 | nil => exact ⟨h, (fun p (hp : p ∈ ([] : Prs)) => by cases hp), Nat.le_refl _⟩
 | cons a r =>
  have hst : strip (a :: r) = if a.1 = [] then r else a :: r := rfl
  rw [hst]
  have h' := List.pairwise_cons.1 h
  have hr : ∀ p, p ∈ r → p.1 ≠ [] := fun p hp e => by
   have := h'.1 p hp
   rw [e] at this
   cases ha : a.1 with
   | nil => rw [ha] at this; exact klt_irrefl _ this
   | cons x y => rw [ha] at this; exact this
  by_cases ha : a.1 = []
  ·rw [if_pos ha]
   exact ⟨h'.2, fun p hp => ⟨List.mem_cons_of_mem _ hp, hr p hp⟩, by simp⟩
  ·rw [if_neg ha]
   refine ⟨h, fun p hp => ⟨hp, ?_⟩, Nat.le_refl _⟩
   rcases List.mem_cons.1 hp with rfl | hp
   ·exact ha
   ·exact hr p hp
theorem sm_ok (L : Prs) : Srt (sm L) ∧ (∀ p, p ∈ sm L → p ∈ L ∧ p.1 ≠ []) ∧ (sm L).length ≤ L.length := by
 obtain ⟨a1, a2, a3, a4⟩ := mapP_ok _ L (Nat.le_refl _)
 obtain ⟨b1, b2, b3⟩ := strip_ok a1
 exact ⟨b1, fun p hp => ⟨a2 p (b2 p hp).1, (b2 p hp).2⟩, Nat.le_trans b3 a4⟩
theorem cnt_sm : ∀ S : List Prs, cnt (S.map sm) ≤ cnt S
 | [] => Nat.le_refl _
 | L :: S => by
  have h := cnt_sm S
  have h1 := (sm_ok L).2.2
  have e1 : cnt ((L :: S).map sm) = (sm L).length + cnt (S.map sm) := rfl
  have e2 : cnt (L :: S) = L.length + cnt S := rfl
  omega
theorem mem_cnt {S : List Prs} {L : Prs} (h : L ∈ S) : L.length ≤ cnt S := by
 induction S with
 | nil => cases h
 | cons M S ih =>
  have e2 : cnt (M :: S) = M.length + cnt S := rfl
  rcases List.mem_cons.1 h with rfl | h
  ·omega
  ·have := ih h; omega
/-- The maps are fine where the merged one is short. -/
theorem maps_fine {S : List Prs} {how : Nat} (hc : cnt S ≤ 65536) (hs : Short1 (mergedP (S.map sm) how)) (hb : ∀ L, L ∈ S → ∀ p, p ∈ L → (∀ x, x ∈ p.1 → x < 256) ∧ p.2 < 18446744073709551616) : ∀ L, L ∈ S.map sm → Fine L := fun L hL => by
 obtain ⟨M, hM, rfl⟩ := List.mem_map.1 hL
 obtain ⟨k1, k2, k3⟩ := sm_ok M
 have hmg := mergedP_mrg (S.map sm) how (fun L hL => by obtain ⟨M, _, rfl⟩ := List.mem_map.1 hL; exact (sm_ok M).1)
 refine ⟨k1, fun p hp => (k2 p hp).2, fun p hp => (hb M hM p (k2 p hp).1).1, fun p hp => ?_, fun p hp => (hb M hM p (k2 p hp).1).2, ?_⟩
 ·have hv : valsOf (S.map sm) p.1 ≠ [] := vals_mem.2 ⟨_, hL, p, hp, rfl⟩
  have := (hmg.mem (p.1, jn how (valsOf (S.map sm) p.1))).2 ⟨hv, rfl⟩
  exact hs (p.1, jn how (valsOf (S.map sm) p.1)) this
 ·have := mem_cnt hM; omega
/-- The merged map has no more pairs. -/
theorem merged_len (S : List Prs) (how : Nat) : (mergedP S how).length ≤ cnt S := by
 unfold mergedP
 rw [List.length_map, ← cnt_flat]
 exact (mapP_ok _ S.flatten (Nat.le_refl _)).2.2.2
theorem merged_val {S : List Prs} {how : Nat} (hs : ∀ L, L ∈ S → Srt L) (hv : ∀ L, L ∈ S → ∀ p, p ∈ L → p.2 < 2 ^ 64) : ∀ p, p ∈ mergedP S how → p.2 < 2 ^ 64 := fun p hp => by
 have hmg := mergedP_mrg S how hs
 rw [((hmg.mem p).1 hp).2]
 refine jn_lt fun v hv' => ?_
 unfold valsOf at hv'
 obtain ⟨l, hl, hv'⟩ := List.mem_flatMap.1 hv'
 obtain ⟨q, hq, rfl⟩ := List.mem_map.1 hv'
 exact hv l hl q (List.mem_filter.1 hq).1
end
section
open Go.RowKit Fmt
set_option maxHeartbeats 2000000 in
set_option maxRecDepth 100000 in
theorem law_calls {w : World} {v : Value} {S : List Prs} {z : Int} {ea : Addr} (h : SetsV w v S) (hb : ∀ L, L ∈ S → ∀ p, p ∈ L → (∀ x, x ∈ p.1 → x < 256) ∧ p.2 < 18446744073709551616) (hT : Tabs w fun _ => 0) (hD : Done w (fun _ => 0) 200 ea) :
  Calls Tryz.prog 3 #[v, .int .i64 z] w fun e w' => e = .returned (.bool true) ∧ Fr (fun _ => False) w w' := by
 have h4 := fits4_calls h
 have HH := Lib.hid (And.intro h (And.intro hb (And.intro hT hD)))
 clear h hb hT hD
 go_enter Tryz.func3, Tryz.ntmps3
 go_wp2_with fail
 refine h4.mono ?_
 rintro e w1 ⟨⟨r, rfl, hr⟩, hF1⟩
 clear h4
 cases r with
 | false =>
  have HF1 := Lib.hid hF1
  clear hr hF1
  go_wp2_with fail
  go_ret
  exact ⟨rfl, HF1.out⟩
 | true =>
 have hfit := hr rfl
 have hmp := maps_calls (HH.out.1.fr hF1) hfit
 have HF := Lib.hid (And.intro hfit hF1)
 clear hr hfit hF1
 go_wp2_with fail
 refine hmp.mono ?_
 rintro e w2 hpost
 clear hmp
 rcases hpost with ⟨⟨zz, rfl⟩, hF2⟩ | ⟨h200, hft, u, rfl, hset, hF2⟩
 ·have HF2 := Lib.hid hF2
  clear hF2
  go_wp2_with fail
  go_ret
  exact ⟨rfl, HF.out.2.trans HF2.out (fun _ _ h => h)⟩
 obtain ⟨A, c, rfl, hcl, -⟩ := hset.setv.len
 obtain ⟨N, hN⟩ : ∃ N, Hid ((S.map sm).length = N) := ⟨_, Lib.hid rfl⟩
 have HM := Lib.hid (And.intro h200 (And.intro hft (And.intro hset (HF.out.2.trans hF2 (fun _ _ h => h)))))
 rw [hN.out]
 clear h200 hft hset hF2 hcl
 by_cases hz0 : z < 0
 ·go_wp2_with fail
  go_ret
  exact ⟨rfl, HM.out.2.2.2⟩
 by_cases hz2 : 2 < z
 ·go_wp2_with fail
  go_ret
  exact ⟨rfl, HM.out.2.2.2⟩
 obtain ⟨how, rfl⟩ : ∃ how : Nat, z = (how : Int) := ⟨z.toNat, by omega⟩
 by_cases hN0 : N = 0
 ·subst hN0
  have e1 : ¬ (how : Int) < 0 := hz0
  have e2 : ¬ (2 : Int) < (how : Int) := hz2
  go_wp2_with fail
  go_ret
  exact ⟨rfl, HM.out.2.2.2⟩
 have hh : how ≤ 2 := by omega
 have e0 : ¬ (N : Int) = 0 := by omega
 obtain ⟨h200, hft, hset, hF2⟩ := HM.out
 have hsm : ∀ L, L ∈ S.map sm → ∃ M, M ∈ S ∧ L = sm M := fun L hL => by obtain ⟨M, hM, rfl⟩ := List.mem_map.1 hL; exact ⟨M, hM, rfl⟩
 have hfit := HF.out.1
 have hk : ∀ L, L ∈ S.map sm → ∀ p, p ∈ L → p.1.length ≤ 2147483647 ∧ p.2 < 2 ^ 64 := fun L hL p hp => by
  obtain ⟨M, hM, rfl⟩ := hsm L hL
  have hpM := ((sm_ok M).2.1 p hp).1
  obtain ⟨i, hi⟩ := List.getElem?_of_mem hM
  obtain ⟨j, hj⟩ := List.getElem?_of_mem hpM
  exact ⟨(hfit.2 i M hi).2 j p hj, (HH.out.2.1 M hM p hpM).2⟩
 have hsrt : ∀ L, L ∈ S.map sm → Srt L := fun L hL => by obtain ⟨M, hM, rfl⟩ := hsm L hL; exact (sm_ok M).1
 have hcnt : cnt (S.map sm) ≤ 65536 := Nat.le_trans (cnt_sm S) hft.2
 have hl200 : (S.map sm).length ≤ 200 := by rw [List.length_map]; exact h200
 have hmg := merged_calls (how := how) hset hl200 hcnt hsrt hk hh
 rw [hN.out] at hmg
 have HK := Lib.hid (And.intro hk (And.intro hsrt (And.intro hcnt (And.intro hl200 hh))))
 clear h200 hft hset hF2 hsm hfit hk hsrt hcnt hl200
 go_wp2_with fail
 ·rename_i hc
  exfalso
  rcases hc with (hc | hc) | hc
  ·omega
  ·omega
  ·simp at hc; omega
 refine hmg.mono ?_
 rintro e w3 ⟨u3, SS3, rfl, hS3, hP3, hF3⟩
 clear hmg
 have hv3 := hP3.v
 rw [hS3] at hv3
 have hml := merged_len (S.map sm) how
 have hsh := short_calls hv3 (by have := HK.out.2.2.1; omega)
 obtain ⟨A3, c3, rfl⟩ : ∃ A c, u3 = .slice A SS3.length c := by obtain ⟨_, h1, _⟩ := hP3.ex; exact rowv h1
 have H3 := Lib.hid (And.intro hv3 (And.intro hF3 hml))
 clear hS3 hP3 hF3 hv3 hml
 go_wp2_with fail
 refine hsh.mono ?_
 rintro e w4 ⟨⟨r, rfl, hr⟩, hF4⟩
 clear hsh
 cases r with
 | false =>
  have HF4 := Lib.hid hF4
  clear hr hF4
  go_wp2_with fail
  go_ret
  exact ⟨rfl, (HM.out.2.2.2.trans H3.out.2.1 (fun _ _ h => h)).trans HF4.out (fun _ _ h => h)⟩
 | true =>
 have hshort := hr rfl
 have hfine := maps_fine HM.out.2.1.2 hshort HH.out.2.1
 have hFall : Fr (fun _ => False) w w4 := (HM.out.2.2.2.trans H3.out.2.1 (fun _ _ h => h)).trans hF4 (fun _ _ h => h)
 have hF24 : Fr (fun _ => False) w2 w4 := H3.out.2.1.trans hF4 (fun _ _ h => h)
 have him := imerge_calls (how := how) (ea := ea) (HM.out.2.2.1.fr hF24) hfine HK.out.2.2.2.1 HK.out.2.2.1 (HH.out.2.2.1.fr0 hFall (fun _ _ => .inl rfl)) (HH.out.2.2.2.fr0 hFall (fun _ _ => .inl rfl)) hh
 rw [hN.out] at him
 have H4 := Lib.hid (And.intro hshort (And.intro hF4 hFall))
 clear hr hshort hfine hFall hF24 hF4
 go_wp2_with fail
 refine him.mono ?_
 rintro e w5 ⟨v5, rfl, g, cap, D, B, root, rfl, hFl, hby, hDc, hcm, hge, hF5⟩
 clear him
 have hgl : g < w5.heap.size := by
  have h1 := hFl.dlen
  obtain ⟨x, hx⟩ : ∃ x, D[0]? = some x := ⟨_, List.getElem?_eq_getElem (by omega)⟩
  exact World.block_lt_of_cell? w5 _ (hby.at_ 0 x hx)
 have hcd := codes_calls (HH.out.2.2.1.fr0 (H4.out.2.2.trans hF5 (fun _ _ h => h)) (fun _ _ => .inl rfl) : Tabs w5 fun _ => 0)
 obtain ⟨nD, hnD⟩ : ∃ n, Hid (D.length = n) := ⟨_, Lib.hid rfl⟩
 rw [hnD.out]
 have H5 := Lib.hid (And.intro hFl (And.intro hby (And.intro hDc (And.intro hcm (And.intro hgl hF5)))))
 clear hFl hby hDc hcm hge hF5 hgl
 go_wp2_with fail
 refine hcd.mono ?_
 rintro e w6 ⟨gc, gb, rfl, hB, hgb, hF6⟩
 clear hcd
 have hdc := decoded_calls H5.out.1 (H5.out.2.1.fr hF6 (fun h => h)) (Nat.lt_of_lt_of_le H5.out.2.2.2.2.1 hF6.size) H5.out.2.2.1 H5.out.2.2.2.1 hB (fun p hp => ⟨H4.out.1 p hp, merged_val HK.out.2.1 (fun L hL p hp => (HK.out.1 L hL p hp).2) p hp⟩) (Nat.le_trans H3.out.2.2 HK.out.2.2.1)
 rw [hnD.out] at hdc
 have H6 := Lib.hid hF6
 clear hB hgb hF6
 go_wp2_with fail
 refine hdc.mono ?_
 rintro e w7 ⟨u7, SS7, rfl, hS7, hP7, hF7⟩
 clear hdc
 have hv7 := hP7.v
 rw [hS7] at hv7
 have hsame := same_calls hv7 (H3.out.1.fr (((H4.out.2.1.trans H5.out.2.2.2.2.2 (fun _ _ h => h)).trans H6.out (fun _ _ h => h)).trans hF7 (fun _ _ h => h))) (by have := H3.out.2.2; have := HK.out.2.2.1; omega)
 obtain ⟨A7, c7, rfl⟩ : ∃ A c, u7 = .slice A SS7.length c := by obtain ⟨_, h1, _⟩ := hP7.ex; exact rowv h1
 have HF7 := Lib.hid hF7
 clear hS7 hP7 hF7 hv7
 go_wp2_with fail
 refine hsame.mono ?_
 rintro e w8 ⟨rfl, hF8⟩
 have HF8 := Lib.hid hF8
 clear hsame hF8
 go_wp2_with fail
 go_ret
 exact ⟨rfl, (((H4.out.2.2.trans H5.out.2.2.2.2.2 (fun _ _ h => h)).trans H6.out (fun _ _ h => h)).trans HF7.out (fun _ _ h => h)).trans HF8.out (fun _ _ h => h)⟩
end
end Go.Proofs.YtmhlnijpimjjaaaGreatDoor
