/- vellum.Merge (f18). Condition: at most 2^20 iterators, keys of at most 400 bytes, at most 65536 pairs. -/
import Derived.Test.YtmhlnijpimjjaaaGreatDoorM33
import Derived.Test.YtmhlnijpimjjaaaGreatDoorM32
set_option linter.unusedSimpArgs false
set_option linter.unusedVariables false
namespace Go.Proofs.YtmhlnijpimjjaaaGreatDoor
open Go.RowKit Fmt
theorem err_en (ea : Addr) (w : World) : (binOp .eql 54 (.iface 200 (.pointer (some ea))) .nilIface).run Tryz.prog w = .ok (.bool false) w := by kernel_rfl
/-- How many pairs are ahead. -/
def rem (ps : List (Prs × Prs)) : Nat := (ps.map fun p => p.2.length).sum
theorem adv_len (k : List Nat) (p : Prs × Prs) : (adv k p).2.length ≤ p.2.length := by
 obtain ⟨c, r⟩ := p
 unfold adv
 cases r with
 | nil => exact Nat.le_refl _
 | cons q r => simp only; split <;> simp
theorem rem_adv (k : List Nat) : ∀ {ps : List (Prs × Prs)}, rem (ps.map (adv k)) ≤ rem ps ∧ ((∃ p, p ∈ ps ∧ ∃ q r, p.2 = q :: r ∧ q.1 = k) → rem (ps.map (adv k)) < rem ps)
 | [] => ⟨Nat.le_refl _, fun ⟨p, h, _⟩ => by cases h⟩
 | p :: ps => by
  obtain ⟨h1, h2⟩ := rem_adv k (ps := ps)
  have h3 := adv_len k p
  have e1 : rem ((p :: ps).map (adv k)) = (adv k p).2.length + rem (ps.map (adv k)) := rfl
  have e2 : rem (p :: ps) = p.2.length + rem ps := rfl
  refine ⟨by omega, fun ⟨p', hp', q, r, hr, hk⟩ => ?_⟩
  rcases List.mem_cons.1 hp' with rfl | hp'
  ·have : (adv k p').2.length < p'.2.length := by
    unfold adv; rw [hr]; simp only; rw [if_pos hk]; simp
   omega
  ·have := h2 ⟨p', hp', q, r, hr, hk⟩
   omega
/-- What has been given is fine. -/
theorem run_fine {how : Nat} {ps : List (Prs × Prs)} {X : Prs} (h : Run (jn how) ps X) (ha : ∀ p, p ∈ ps → ∀ q, q ∈ p.1 ++ p.2 → q.1 ≠ [] ∧ (∀ x, x ∈ q.1 → x < 256) ∧ q.1.length ≤ 400 ∧ q.2 < 18446744073709551616) (hl : X.length ≤ 65536) : Fine X := by
 have key : ∀ d, d ∈ X → ∃ p, p ∈ ps ∧ ∃ q, q ∈ p.1 ++ p.2 ∧ q.1 = d.1 := fun d hd => by
  obtain ⟨l, hl, q, hq, e⟩ := vals_mem.1 ((h.mrg.mem d).1 hd).1
  obtain ⟨p, hp, rfl⟩ := List.mem_map.1 hl
  exact ⟨p, hp, q, List.mem_append_left _ hq, e⟩
 refine ⟨h.mrg.srt, fun d hd => ?_, fun d hd => ?_, fun d hd => ?_, fun d hd => ?_, hl⟩
 ·obtain ⟨p, hp, q, hq, e⟩ := key d hd; rw [← e]; exact (ha p hp q hq).1
 ·obtain ⟨p, hp, q, hq, e⟩ := key d hd; rw [← e]; exact (ha p hp q hq).2.1
 ·obtain ⟨p, hp, q, hq, e⟩ := key d hd; rw [← e]; exact (ha p hp q hq).2.2.1
 ·rw [((h.mrg.mem d).1 hd).2]
  refine jn_lt fun v hv => ?_
  unfold valsOf at hv
  obtain ⟨l, hl, hv⟩ := List.mem_flatMap.1 hv
  obtain ⟨p, hp, rfl⟩ := List.mem_map.1 hl
  obtain ⟨q, hq, rfl⟩ := List.mem_map.1 hv
  exact (ha p hp q (List.mem_append_left _ (List.mem_filter.1 hq).1)).2.2.2
/-- The lowest key is the next one. -/
theorem LowP.step {how N : Nat} {ps : List (Prs × Prs)} {X : Prs} {k : List Nat} {ix : List Nat} (h : LowP ps N (some k) ix) (hN : ps.length = N) (hR : Run (jn how) ps X) : Run (jn how) (ps.map (adv k)) (X ++ [(k, jn how (heads k ps))]) ∧ rem (ps.map (adv k)) < rem ps := by
 have ht : ps.take N = ps := List.take_of_length_le (by omega)
 obtain ⟨h1, h2, h3⟩ := h
 rw [ht] at h1 h3
 have hex : ∃ p, p ∈ ps ∧ ∃ q r, p.2 = q :: r ∧ q.1 = k := by
  obtain ⟨x, hx⟩ := List.exists_mem_of_ne_nil _ h2
  rw [h1] at hx
  obtain ⟨-, p, q, r, e1, e2, e3⟩ := hix_mem.1 hx
  exact ⟨p, List.mem_of_getElem? e1, q, r, e2, e3⟩
 exact ⟨hR.next h3 hex, (rem_adv k).2 hex⟩
theorem Mg.runs {w : World} {col : Col} {mb how : Nat} {ms : List Mi} {ps : List (Prs × Prs)} {fr : Nat → Prop} {d : MD} (h : Mg w col mb how ms ps fr d) : (ps.map fun p => p.1 ++ p.2) = ms.map fun m => m.L := by
 apply List.ext_getElem?
 intro i
 rw [List.getElem?_map, List.getElem?_map]
 cases hp : ps[i]? with
 | none =>
  have : ps.length ≤ i := by simpa using hp
  rw [List.getElem?_eq_none (by rw [← h.len]; exact this)]; rfl
 | some p =>
  have hl := (List.getElem?_eq_some_iff.1 hp).1
  rw [h.len] at hl
  obtain ⟨m, hm⟩ : ∃ m, ms[i]? = some m := ⟨_, List.getElem?_eq_getElem hl⟩
  rw [hm, Option.map_some, Option.map_some, (h.its i m p hm hp).all]
def VmPost (w : World) (col : Col) (bb : Nat) (L : Prs) (e : Ending) (w' : World) : Prop :=
 e = .returned .nilIface ∧ ∃ (D B : List Nat) (root fb rb : Nat) (buf : List Nat) (v : Value) (full : List Value) (col' : Col), File codesN backN D L B root ∧ Bw w' col' 1 fb rb bb D buf 0 D v full ∧ Kp (fun d => 1 ≤ d) col w col' w'
def VmI (w : World) (col : Col) (I : Ids) (mb how : Nat) (ms : List Mi) (ea : Addr) (g : Nat) (v : Value) (wx : World) : Prop :=
 ∃ (colx : Col) (X : Prs) (ps : List (Prs × Prs)) (d : MD), Has wx colx I X ∧ Mg wx colx mb how ms ps (fun _ => True) d ∧ Run (jn how) ps X ∧ X.length + rem ps ≤ 65536 ∧ g = rem ps + 1 ∧ Kp (fun d => 1 ≤ d) col w colx wx ∧ (((∀ p, p ∈ ps → p.2 = []) ∧ v = .iface 200 (.pointer (some ea))) ∨ ∃ k, LowP ps ms.length (some k) d.ix ∧ (∃ i, KeyVal wx colx i d.lk k) ∧ d.lv = jn how (heads k ps) ∧ v = .nilIface)
theorem Mg.good {w : World} {col : Col} {mb how : Nat} {ms : List Mi} {ps : List (Prs × Prs)} {fr : Nat → Prop} {d : MD} (h : Mg w col mb how ms ps fr d) (h4 : ∀ m, m ∈ ms → ∀ q, q ∈ m.L → q.1.length ≤ 400) : ∀ p, p ∈ ps → ∀ q, q ∈ p.1 ++ p.2 → q.1 ≠ [] ∧ (∀ x, x ∈ q.1 → x < 256) ∧ q.1.length ≤ 400 ∧ q.2 < 18446744073709551616 := fun p hp q hq => by
 obtain ⟨i, hi⟩ := List.getElem?_of_mem hp
 have hl := (List.getElem?_eq_some_iff.1 hi).1
 rw [h.len] at hl
 obtain ⟨m, hm⟩ : ∃ m, ms[i]? = some m := ⟨_, List.getElem?_eq_getElem hl⟩
 have hx := h.its i m p hm hi
 rw [← hx.all] at hq
 exact ⟨hx.ne q hq, hx.byt q hq, h4 m (List.mem_of_getElem? hm) q hq, hx.val q hq⟩
set_option maxHeartbeats 4000000 in
set_option maxRecDepth 100000 in
theorem vmerge_calls {w : World} {col : Col} {bb how : Nat} {iv : Value} {iF : List Value} {ms : List Mi} {ea : Addr} {L : Prs} (hB : Buf0 w col bb) (hT : Tabs w col) (hD : Done w col 200 ea) (hh : how ≤ 2) (hNm : ms.length ≤ 1048576) (itr : RowC w col 55 121 1 iv ms.length iF) (iat : ∀ (i : Nat) (m : Mi), ms[i]? = some m → iF[i]? = some (.iface 75 (.pointer (some ⟨m.ib, 0, none⟩)))) (its : ∀ (i : Nat) (m : Mi), ms[i]? = some m → MiAt w col i m [] m.L) (h4 : ∀ m, m ∈ ms → ∀ q, q ∈ m.L → q.1.length ≤ 400) (hc : rem (ms.map fun m => ([], m.L)) ≤ 65536) (hL : Mrg (jn how) (ms.map fun m => m.L) L) :
  Calls Tryz.prog 18 #[.iface 56 (.pointer (some ⟨bb, 0, none⟩)), .pointer none, iv, .func (.func (fnOf how)) #[] #[]] w (VmPost w col bb L) := by
 obtain ⟨A0, c0, rfl, -⟩ := itr.row.slc
 obtain ⟨N, hN⟩ : ∃ N, Hid (ms.length = N) := ⟨_, Lib.hid rfl⟩
 have hn := new_calls hB hT
 have HN := Lib.hid (And.intro hT (And.intro hD (And.intro hh (And.intro hNm (And.intro itr (And.intro iat (And.intro its (And.intro h4 (And.intro hc hL)))))))))
 clear hB hT hD hh hNm itr iat its h4 hc hL
 rw [hN.out]
 go_enter Tryz.func18, Tryz.ntmps18
 go_wp2_with fail
 refine hn.mono ?_
 rintro e w1 ⟨I, col1, rfl, hIb, hBS, hK1⟩
 have hX : Has w1 col1 I [] := ⟨_, _, _, _, _, _, hBS, BI.init _ _, Rst.init⟩
 have hb0 : ∀ c, 13 ≤ c ∨ c = 0 → ¬ bdc c := fun c hc h => by unfold bdc at h; omega
 have hm := mnew_calls (how := how) (col := col1) HN.out.2.2.1 HN.out.2.2.2.1 (HN.out.2.2.2.2.1.kp hK1 (hb0 _ (by decide))) HN.out.2.2.2.2.2.1 (fun i m hm => (HN.out.2.2.2.2.2.2.1 i m hm).kp hK1 (fun c h3 _ => hb0 c (.inl (by unfold kc at h3; omega))) (hb0 _ (.inr rfl))) (HN.out.2.1.kp hK1 (hb0 _ (.inr rfl)))
 rw [hN.out] at hm
 have HX := Lib.hid (And.intro hX (And.intro hK1 hIb))
 obtain ⟨bd, hbd⟩ : ∃ v, Hid (I.bd = v) := ⟨_, Lib.hid rfl⟩
 rw [hbd.out]
 clear hn hX hBS hK1 hb0 hIb
 go_wp2_with fail
 refine hm.mono ?_
 rintro e w2 ⟨mb, v, rfl, col2, d2, hM2, hK2, hv⟩
 clear hm
 have HI : Hid (VmI w col I mb how ms ea (rem (ms.map fun m => (([] : Prs), m.L)) + 1) v w2) := Lib.hid ⟨col2, [], _, d2, HX.out.1.fr hK2 (fun c h => by unfold cmg at h; omega), hM2, (by
  have e : (ms.map fun m => (([] : Prs), m.L)) = (ms.map fun m => m.L).map fun l => ([], l) := by rw [List.map_map]; rfl
  rw [e]
  refine Run.start _ _ fun l hl => ?_
  obtain ⟨m, hm, rfl⟩ := List.mem_map.1 hl
  obtain ⟨i, hi⟩ := List.getElem?_of_mem hm
  exact (HN.out.2.2.2.2.2.2.1 i m hi).srt), by simpa using HN.out.2.2.2.2.2.2.2.2.1, rfl, (HX.out.2.1.mono fun c h => h.1).trans (hK2.mono fun c h => by unfold cmg at h; omega), hv⟩
 clear hM2 hK2 hv
 go_wp2_with fail
 go_loopg [10] (rem (ms.map fun m => (([] : Prs), m.L)) + 1) (fun g tv wx => VmI w col I mb how ms ea g tv wx)
 case atStart => exact HI.out
 case round =>
  clear HI
  obtain ⟨colx, X, ps, d, hX, hM, hR, hT, hg, hK, hv⟩ := hrel
  have HT := Lib.hid (And.intro hT (And.intro hg (And.intro hR hK)))
  rcases hv with ⟨he, rfl⟩ | ⟨k, h1, ⟨y, h2⟩, h3, rfl⟩
  ·have rg := (HN.out.2.1.kp hK (by omega)).cell
   have q1 := err_ne ea wr
   have q2 := err_nn ea wr
   have q3 := err_en ea wr
   have hcl := mclose_calls hM HN.out.2.2.2.1
   have hfine := run_fine hR (hM.good HN.out.2.2.2.2.2.2.2.1) (by omega)
   have hclose := hX.close hfine
   rw [hbd.out] at hclose
   have hXL : Hid (X = L) := Lib.hid ((hM.runs ▸ hR.done he).uniq HN.out.2.2.2.2.2.2.2.2.2)
   clear hX hM hR hT hg hK he hfine
   go_wp2_with fail
   refine hcl.mono ?_
   rintro e w3 ⟨rfl, rfl⟩
   clear hcl
   go_wp2_with fail
   refine hclose.mono ?_
   rintro e w4 ⟨rfl, D, B, root, buf, v, full, col4, hF, hBw, hK4⟩
   have HE := Lib.hid (And.intro hF (And.intro hBw hK4))
   clear hclose hF hBw hK4
   go_wp2_with fail
   go_ret
   obtain ⟨hF, hBw, hK4⟩ := HE.out
   rw [hXL.out] at hF
   rw [HX.out.2.2] at hBw
   exact ⟨rfl, D, B, root, _, _, buf, v, full, col4, hF, hBw, HT.out.2.2.2.trans (hK4.mono fun c e => e.1)⟩
  ·obtain ⟨gk, ck, ek, hby, hgl, hgc, hkc, hcm⟩ := id h2
   obtain ⟨nk, hnk⟩ : ∃ nk, Hid (k.length = nk) := ⟨_, Lib.hid rfl⟩
   rw [hnk.out] at ek hkc
   have r4 : wr.cell? ⟨mb, 4, none⟩ = some (.slice (some ⟨gk, 0, none⟩) nk ck) := by have h := hM.blk.blk.cell 4 rfl; rw [ek] at h; exact h
   have r5 : wr.cell? ⟨mb, 5, none⟩ = some (.int .u64 (d.lv : Int)) := hM.blk.blk.cell 5 rfl
   have hcur := mcur_calls r4 r5
   obtain ⟨lv, hlv⟩ : ∃ lv, Hid (d.lv = lv) := ⟨_, Lib.hid rfl⟩
   rw [hlv.out] at hcur
   have HM := Lib.hid (And.intro hX (And.intro hM (And.intro h1 (And.intro h3 (And.intro hby (And.intro hgl (And.intro hgc (And.intro hkc hcm))))))))
   clear hX hM hR hT hg hK h1 h2 h3 ek hby hgl hgc hkc hcm r4 r5
   go_wp2_with fail
   refine hcur.mono ?_
   rintro e w3 ⟨rfl, hF3⟩
   obtain ⟨hX, hM, h1, h3, hby, hgl, hgc, hkc, hcm⟩ := HM.out
   obtain ⟨hM3, hK3⟩ := hM.news hF3
   have hX3 := hX.fr hK3 (fun c h => by omega)
   obtain ⟨hR2, hrem⟩ := h1.step (how := how) hM.len HT.out.2.2.1
   have hfine := run_fine hR2 (fun p hp q hq => by
    obtain ⟨p', hp', rfl⟩ := List.mem_map.1 hp
    rw [adv_app] at hq
    exact hM.good HN.out.2.2.2.2.2.2.2.1 p' hp' q hq) (by rw [List.length_append]; have := HT.out.1; simp; omega)
   have hins := hX3.ins (Y := []) (p := (k, jn how (heads k ps))) (kb := gk) (ko := 0) (kc := ck) (n := nk) hfine rfl (hby.fr hF3 (fun h => h)) (by rw [hK3.same gk hgl, hgc]; unfold bdc kc; omega) hnk.out hkc hcm
   rw [hbd.out] at hins
   simp only at hins
   rw [← h3, hlv.out] at hins
   have HM3 := Lib.hid (And.intro hM3 (And.intro hK3 (And.intro hR2 (And.intro hrem (And.intro h1 h3)))))
   clear hcur hX hM h1 h3 hby hgl hgc hkc hcm hF3 hM3 hK3 hX3 hR2 hrem hfine HM
   go_wp2_with fail
   refine hins.mono ?_
   rintro e w4 ⟨rfl, col4, hX4, hK4⟩
   obtain ⟨hM3, hK3, hR2, hrem, h1, h3⟩ := HM3.out
   have hK := (HT.out.2.2.2.trans (hK3.mono fun c (e : c = 56) => by omega)).trans (hK4.mono fun c e => e.1)
   have hnx := mnext_calls (hM3.kp hK4 (fun c hc h => by unfold bdc at h; omega) (fun h => by unfold bdc at h; omega)) h1 HN.out.2.2.1 (by obtain ⟨x, hx⟩ := List.exists_mem_of_ne_nil _ h1.2.1; rw [h1.1] at hx; obtain ⟨-, p, q, r, e1, -⟩ := hix_mem.1 hx; have h5 := (List.getElem?_eq_some_iff.1 e1).1; simp at h5; omega) HN.out.2.2.2.1 (HN.out.1.kp hK (by omega)) (HN.out.2.1.kp hK (by omega))
   have HX4 := Lib.hid (And.intro hX4 hK)
   clear hins hM3 hK3 hR2 hrem h1 h3 hX4 hK4 hK
   go_wp2_with fail
   refine hnx.mono ?_
   rintro e w5 ⟨v5, rfl, hO⟩
   obtain ⟨col5, d5, hM5, hK5, hv5⟩ := hO.toEnd
   have HO : Hid (VmI w col I mb how ms ea (rem (ps.map (adv k)) + 1) v5 w5) := Lib.hid ⟨col5, _, _, d5, HX4.out.1.fr hK5 (fun c h => by unfold cmg at h; omega), hM5, (by have h := HM3.out.2.2.1; rw [← HM3.out.2.2.2.2.2, hlv.out] at h; exact h), by have h6 := HT.out.1; have h7 := HM3.out.2.2.2.1; rw [List.length_append]; simp; omega, rfl, HX4.out.2.trans (hK5.mono fun c h => by unfold cmg at h; omega), hv5⟩
   clear hO hM5 hK5 hv5 hnx
   go_wp2_with fail
   go_roundg (rem (ps.map (adv k)) + 1)
   case measure => have := HM3.out.2.2.2.1; have := HT.out.2.1; omega
   case rel => exact HO.out
end Go.Proofs.YtmhlnijpimjjaaaGreatDoor
