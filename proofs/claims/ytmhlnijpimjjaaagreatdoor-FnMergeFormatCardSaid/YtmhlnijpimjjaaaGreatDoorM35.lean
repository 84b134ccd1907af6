/- impl.iterators (f17): an iterator for each map that has pairs. Condition: at most 200 maps, fine ones. impl.Merge (f8): the bytes of the merged map. Condition: at most 200 fine maps, at most 65536 pairs in all. The reference reads a state of one transition (f58). Condition: the data hold such a state. The reference reads a state of many transitions: what it has in memory. No condition. -/
import Derived.Test.YtmhlnijpimjjaaaGreatDoorM34
import Derived.Test.YtmhlnijpimjjaaaGreatDoorM29
import Derived.Test.YtmhlnijpimjjaaaGreatDoorM20
import Derived.Test.YtmhlnijpimjjaaaGreatDoorM27
import Derived.Test.YtmhlnijpimjjaaaGreatDoorM22
import Derived.Laws.ResultCell
import Derived.Laws.Rows
set_option linter.unusedSimpArgs false
set_option linter.unusedVariables false
namespace Go.Proofs.YtmhlnijpimjjaaaGreatDoor
section
open Go.RowKit Fmt
section
variable {w w1 : World} {col col1 : Col}
theorem RowC.fr0 {c : Nat} {e : TypeId} {size : Nat} {v : Value} {n : Nat} {F : List Value} (h : RowC w col c e size v n F) (hF : Fr (fun _ => False) w w1) (hs : ∀ k, k < w.heap.size → col1 k = col k) : RowC w1 col1 c e size v n F :=
 ⟨h.row.fr hF (fun _ _ h => h), fun q hq => (hs q (h.row.lt hq)).trans (h.col q hq)⟩
theorem MiAt.fr0 {i : Nat} {m : Mi} {r : Prs} (h : MiAt w col i m [] r) (hr : r ≠ []) (hF : Fr (fun _ => False) w w1) (hs : ∀ k, k < w.heap.size → col1 k = col k) : MiAt w1 col1 i m [] r := by
 refine { h with st := ?_ }
 have hst := h.st
 cases r with
 | nil => exact absurd rfl hr
 | cons p L1 =>
  obtain ⟨ab, K0, v, n, F, sl, P, a, h1, h2⟩ := hst
  refine ⟨ab, K0, v, n, F, sl, P, a, ?_, h2⟩
  obtain ⟨e1, e2, e3, e4⟩ := h1.far
  exact { h1 with
   ic := ⟨⟨h1.ic.blk.blk.fr hF (fun h => h), (hs _ h1.ic.blk.lt).trans h1.ic.blk.col⟩, fun j hj => (h1.ic.row j hj).fr0 hF hs⟩
   fst := h1.fst.fr hF (fun h => h) (fun h => h) (fun h => h)
   far := ⟨(hs _ h1.fst.fst.lt).trans e1, (hs _ h1.fst.dec.lt).trans e2, (hs _ h1.gl).trans e3, e4⟩
   gl := Nat.lt_of_lt_of_le h1.gl hF.size
   sts := ⟨h1.sts.nd, fun i b hb => by
    obtain ⟨g1, cs, g2, g3⟩ := h1.sts.old i b hb
    exact ⟨(hs b g3.lt).trans g1, cs, g2, g3.fr hF (fun h => h)⟩⟩
   act := fun i x hx => by
    obtain ⟨b, g1, g2⟩ := h1.act i x hx
    exact ⟨b, g1, g2.fr hF (fun h => h)⟩ }
theorem Tabs.fr0 (h : Tabs w col) (hF : Fr (fun _ => False) w w1) (hs : ∀ k, k < w.heap.size → col1 k = col k ∨ col1 k = 0) : Tabs w1 col1 := by
 have key : ∀ {g : Nat} {L : List Nat}, TabC w col g L → TabC w1 col1 g L := fun {g L} h => by
  obtain ⟨b, o, c, h1, h2, h3, h4, h5⟩ := h.ex
  have z : ∀ k, k < w.heap.size → col k = 0 → col1 k = 0 := fun k hk e => by
   rcases hs k hk with h | h
   ·exact h.trans e
   ·exact h
  exact ⟨b, o, c, hF.cell h1 (fun h => h), h2, fun i hi => hF.cell (h3 i hi) (fun h => h), z _ (World.block_lt_of_cell? w _ h1) h4, z _ (World.block_lt_of_cell? w _ (h3 0 (by omega))) h5⟩
 exact ⟨key h.inp, key h.inv⟩
theorem Done.fr0 {T : TypeId} {ea : Addr} (h : Done w col T ea) (hF : Fr (fun _ => False) w w1) (hs : ∀ k, k < w.heap.size → col1 k = col k ∨ col1 k = 0) : Done w1 col1 T ea := by
 refine ⟨hF.cell h.cell (fun h => h), ?_⟩
 rcases hs 0 (World.block_lt_of_cell? w _ h.cell) with e | e
 ·exact e.trans h.col
 ·exact e
end
/-- The iterators so far. -/
structure ItI (w wx : World) (colx : Col) (iv : Value) (iF : List Value) (ms : List Mi) (S : List Prs) (ea : Addr) : Prop where
 row : RowC wx colx 55 121 1 iv ms.length iF
 iat : ∀ (i : Nat) (m : Mi), ms[i]? = some m → iF[i]? = some (.iface 75 (.pointer (some ⟨m.ib, 0, none⟩)))
 its : ∀ (i : Nat) (m : Mi), ms[i]? = some m → MiAt wx colx i m [] m.L ∧ m.L ≠ []
 eq : ms.map (fun m => m.L) = S.filter fun L => decide (L ≠ [])
 fr : Fr (fun _ => False) w wx
 own : ∀ b, iv.ownBlock = some b → w.heap.size ≤ b
 tab : Tabs wx colx
 don : Done wx colx 200 ea
 old : ∀ k, k < w.heap.size → colx k = 0
def ItsPost (w : World) (S : List Prs) (ea : Addr) (e : Ending) (w' : World) : Prop := ∃ iv iF ms col', e = .returned (.tuple #[iv, .bool true]) ∧ ItI w w' col' iv iF ms S ea
/-- A map without pairs is left out. -/
theorem ItI.skip {w wx w2 w3 : World} {colx col3 : Col} {iv : Value} {iF : List Value} {ms : List Mi} {S : List Prs} {ea : Addr} (h : ItI w wx colx iv iF ms S ea) (hF : Fr (fun _ => False) wx w2) (hK : Kp (itc (kc ms.length)) (paint wx.heap.size 0 colx) w2 col3 w3) :
  ItI w w3 col3 iv iF ms (S ++ [[]]) ea ∧ RowF w3 121 1 iv ms.length iF := by
 have hs : ∀ k, k < wx.heap.size → paint wx.heap.size 0 colx k = colx k := fun k hk => paint_lt hk
 have hn : ∀ c, c < 100 → ¬ itc (kc ms.length) c := fun c hc hh => by unfold itc kc at hh; omega
 have hrow := (h.row.fr0 hF hs).kp hK (hn _ (by decide))
 refine ⟨{ row := hrow, iat := h.iat, its := fun i m hm => ⟨?_, (h.its i m hm).2⟩, eq := by rw [h.eq, List.filter_append]; simp, fr := (h.fr.trans hF (fun _ _ h => h)).trans hK.fr (fun k hk hc => by
   rw [hs k (Nat.lt_of_lt_of_le hk h.fr.size), h.old k hk] at hc
   exact hn 0 (by decide) hc), own := h.own, tab := (h.tab.fr0 hF fun k hk => .inl (hs k hk)).kp hK (hn _ (by decide)), don := (h.don.fr0 hF fun k hk => .inl (hs k hk)).kp hK (hn _ (by decide)), old := fun k hk => ?_ }, hrow.row⟩
 ·have hi := (List.getElem?_eq_some_iff.1 hm).1
  exact ((h.its i m hm).1.fr0 (h.its i m hm).2 hF hs).kp hK (fun c h1 h2 hh => by unfold itc at hh; unfold kc at hh h1 h2; omega) (hn _ (by decide))
 ·rw [hK.same k (Nat.lt_of_lt_of_le hk (Nat.le_trans h.fr.size hF.size)), hs k (Nat.lt_of_lt_of_le hk h.fr.size)]
  exact h.old k hk
/-- An iterator is appended. -/
theorem ItI.add {w w3 w5 : World} {col3 : Col} {iv v5 : Value} {iF F5 : List Value} {ms : List Mi} {S : List Prs} {ea : Addr} {m : Mi} (h : ItI w w3 col3 iv iF ms (S ++ [[]]) ea) (hm : MiAt w3 col3 ms.length m [] m.L) (hne : m.L ≠ []) (hr : RowF w5 121 1 v5 (ms.length + 1) F5) (hF : Fr (fun q => iv.ownBlock = some q) w3 w5)
  (hc : (v5.ownBlock = iv.ownBlock ∧ F5 = iF.take (ms.length * 1) ++ [.iface 75 (.pointer (some ⟨m.ib, 0, none⟩))] ++ iF.drop ((ms.length + 1) * 1)) ∨ ((∃ b', v5.ownBlock = some b' ∧ w3.heap.size ≤ b') ∧ ∃ k, F5 = iF.take (ms.length * 1) ++ [.iface 75 (.pointer (some ⟨m.ib, 0, none⟩))] ++ zeros #[.nilIface] k)) :
  ItI w w5 (paint w3.heap.size 55 col3) v5 F5 (ms ++ [m]) (S ++ [m.L]) ea := by
 have ha := AppF.of hc
 have K : Kp (fun d => d = 55) col3 w3 (paint w3.heap.size 55 col3) w5 := Kp.of hF 55 (fun q _ e => h.row.col q e) rfl
 obtain ⟨A, cp, e1, e2, e3, e4⟩ := h.row.row.slc
 have hl : ms.length ≤ iF.length := by rw [e4]; omega
 have hcol : ∀ q, v5.ownBlock = some q → paint w3.heap.size 55 col3 q = 55 := by
  intro q hq
  rcases hc with ⟨e, _⟩ | ⟨⟨b', e, hb'⟩, _⟩
  ·rw [e] at hq
   rw [paint_lt (h.row.row.lt hq)]; exact h.row.col q hq
  ·rw [e] at hq
   injection hq with hq
   subst hq
   exact paint_ge hb'
 have hw3 := h.fr.size
 refine { row := ⟨by rw [List.length_append]; exact hr, hcol⟩, iat := fun i x hx => ?_, its := fun i x hx => ?_, eq := ?_, fr := h.fr.trans hF (fun q hq e => by have := h.own q e; omega), own := fun b hb => ?_, tab := h.tab.kp K (by decide), don := h.don.kp K (by decide), old := fun k hk => ?_ }
 ·rcases Nat.lt_or_ge i ms.length with hlt | hge
  ·rw [List.getElem?_append_left hlt] at hx
   rw [ha.lt hl hlt]; exact h.iat i x hx
  ·rw [List.getElem?_append_right hge] at hx
   obtain rfl : i = ms.length := by have := (List.getElem?_eq_some_iff.1 hx).1; simp at this; omega
   simp at hx
   subst hx
   exact ha.at_ hl
 ·rcases Nat.lt_or_ge i ms.length with hlt | hge
  ·rw [List.getElem?_append_left hlt] at hx
   exact ⟨(h.its i x hx).1.kp K (fun c h1 h2 => by unfold kc at h1; omega) (by decide), (h.its i x hx).2⟩
  ·rw [List.getElem?_append_right hge] at hx
   obtain rfl : i = ms.length := by have := (List.getElem?_eq_some_iff.1 hx).1; simp at this; omega
   simp at hx
   subst hx
   exact ⟨hm.kp K (fun c h1 h2 => by unfold kc at h1; omega) (by decide), hne⟩
 ·have he := h.eq
  rw [List.filter_append] at he ⊢
  simp only [List.map_append, List.map_cons, List.map_nil]
  rw [he]
  simp [hne]
 ·rcases hc with ⟨e, _⟩ | ⟨⟨b', e, hb'⟩, _⟩
  ·rw [e] at hb; exact h.own b hb
  ·rw [e] at hb; cases hb; omega
 ·rw [paint_lt (by omega)]; exact h.old k hk
set_option maxHeartbeats 4000000 in
set_option maxRecDepth 100000 in
theorem iters_calls {w : World} {v : Value} {S : List Prs} {ea : Addr} (h : SetsN w v S) (hF : ∀ L, L ∈ S → Fine L) (h200 : S.length ≤ 200) (hT : Tabs w fun _ => 0) (hD : Done w (fun _ => 0) 200 ea) :
  Calls Tryz.prog 17 #[v] w fun e w' => ItsPost w S ea e w' := by
 obtain ⟨A, c, rfl, hc, hm⟩ := h.setv.len
 obtain ⟨N, hN⟩ : ∃ N, Hid (S.length = N) := ⟨_, Lib.hid rfl⟩
 have HS := Lib.hid (And.intro h (And.intro hF (And.intro h200 (And.intro hT hD))))
 have H0 : Hid (ItI w w (fun _ => 0) (.slice none 0 0) [] [] [] ea) := Lib.hid { row := ⟨.inl ⟨rfl, rfl, rfl⟩, fun q hq => by simp [Value.ownBlock] at hq⟩, iat := fun i m hm => by simp at hm, its := fun i m hm => by simp at hm, eq := rfl, fr := Fr.refl _ _, own := fun b hb => by simp [Value.ownBlock] at hb, tab := hT, don := hD, old := fun _ _ => rfl }
 rw [hN.out] at hc h200 ⊢
 clear h hF hT hD hm
 go_enter Tryz.func17, Tryz.ntmps17
 go_wp2_with fail
 go_loopg [4, 14] (N + 1) (fun g tv ti wx => ∃ (j : Nat) (colx : Col) (iF : List Value) (ms : List Mi), j ≤ N ∧ g = N - j + 1 ∧ ti = .int .i64 (j : Int) ∧ ItI w wx colx tv iF ms (S.take j) ea ∧ ms.length ≤ j)
 case atStart => exact ⟨0, _, [], [], by omega, by omega, rfl, H0.out, Nat.le_refl _⟩
 case round =>
  clear H0
  obtain ⟨j, colx, iF, ms, hj, hg, rfl, hI, hmj⟩ := hrel
  obtain ⟨AO, cO, rfl⟩ := rowv hI.row.row
  have HX := Lib.hid (And.intro hI (And.intro hg (And.intro hmj hj)))
  by_cases hend : j = N
  ·subst hend
   have d1 : ¬ (j : Int) < (j : Int) := by omega
   clear hI hg hmj hj
   go_wp2_with fail
   go_ret2
   refine ⟨_, iF, ms, colx, rfl, ?_⟩
   have h := HX.out.1
   rwa [List.take_of_length_le (by rw [hN.out]; exact Nat.le_refl _)] at h
  ·obtain ⟨L, hL⟩ : ∃ L, S[j]? = some L := ⟨_, List.getElem?_eq_getElem (by rw [hN.out]; omega)⟩
   obtain ⟨b, o, c', u, k1, k2, b2, o2, c2, rfl, hat, hbl, hcl, hcm⟩ := (HS.out.1.fr hI.fr).at_ hL
   rw [hN.out] at k1
   injection k1 with k1 k1b k1c
   subst k1 k1c
   clear k1b
   have hfine := HS.out.2.1 L (List.mem_of_getElem? hL)
   have hbuild := build_calls (hI.tab.fr0 (col1 := fun _ => 0) (Fr.refl _ _) (fun _ _ => .inr rfl)) hfine hat hbl hcl hcm
   obtain ⟨nL, hnL⟩ : ∃ nL, Hid (L.length = nL) := ⟨_, Lib.hid rfl⟩
   rw [hnL.out] at hbuild k2
   have d1 : (j : Int) < (N : Int) := by omega
   have d2 : IntKind.i64.wrap ((j : Int) + 1) = ((j + 1 : Nat) : Int) := by rw [IntWalk.i64_in _ (by omega)]; omega
   have HL := Lib.hid (And.intro hL hfine)
   clear hI hg hmj hj hend hL hat hbl hcl hcm hfine
   go_wp2_with fail
   refine hbuild.mono ?_
   rintro e w1 ⟨v1, rfl, g, cap, D, B, root, rfl, hFl, hby, hDc, hcm, hge, hF1⟩
   clear hbuild
   have hgl : g < w1.heap.size := by
    have h1 := hFl.dlen
    obtain ⟨x, hx⟩ : ∃ x, D[0]? = some x := ⟨_, List.getElem?_eq_getElem (by omega)⟩
    exact World.block_lt_of_cell? w1 _ (hby.at_ 0 x hx)
   have hload := load_calls hFl hby hDc hcm hgl
   obtain ⟨nD, hnD⟩ : ∃ nD, Hid (D.length = nD) := ⟨_, Lib.hid rfl⟩
   rw [hnD.out] at hload ⊢
   have HF := Lib.hid (And.intro hF1 (And.intro hge hgl))
   clear hFl hby hDc hcm hge hF1 hgl
   go_wp2_with fail
   refine hload.mono ?_
   rintro e w2 ⟨fb, db, rfl, hFst, hfb, hdb, hF2⟩
   clear hload
   have hF12 : Fr (fun _ => False) wr w2 := HF.out.1.trans hF2 (fun _ _ h => h)
   have hs : ∀ k, k < wr.heap.size → paint wr.heap.size 0 colx k = colx k := fun k hk => paint_lt hk
   have h1s := HF.out.1.size
   have hiter := iter_calls (col := paint wr.heap.size 0 colx) (c := kc ms.length) (T := 200) (ea := ea) hFst ⟨paint_ge (by omega), paint_ge (by omega), paint_ge HF.out.2.1, by unfold kc; omega⟩ (Nat.lt_of_lt_of_le HF.out.2.2 hF2.size) (HX.out.1.tab.fr0 hF12 (fun k hk => .inl (hs k hk))) (HX.out.1.don.fr0 hF12 (fun k hk => .inl (hs k hk))) (fun p hp => by have := HL.out.2.len p hp; omega) HL.out.2.ne
   have HF2 := Lib.hid hF12
   clear hF2 hF12 hs h1s hfb hdb hFst
   go_wp2_with fail
   refine hiter.mono ?_
   rintro e w3 ⟨col3, hK3, hcase⟩
   clear hiter
   obtain ⟨hI3, hrow3⟩ := HX.out.1.skip HF2.out hK3
   rcases hcase with ⟨hL0, rfl⟩ | ⟨ib, k, o3, L1, hL0, hib, rfl, hat3⟩
   ·have rg := hI3.don.cell
    have q1 := err_ne ea w3
    have q2 := err_nn ea w3
    have HI3 := Lib.hid (And.intro hI3 hL0)
    clear hI3 hrow3 hK3 hL0
    go_wp2_with fail
    go_roundg (N - (j + 1) + 1)
    case measure => have := HX.out; omega
    case rel =>
     refine ⟨j + 1, col3, iF, ms, by have := HX.out; omega, rfl, by simp, ?_, by have := HX.out.2.2.1; omega⟩
     rw [take_snoc HL.out.1, HI3.out.2]
     exact HI3.out.1
   ·have HI3 := Lib.hid (And.intro hI3 (And.intro hL0 hat3))
    obtain ⟨nm, hnm⟩ : ∃ nm, Hid (ms.length = nm) := ⟨_, Lib.hid rfl⟩
    rw [hnm.out] at hrow3 ⊢
    clear hI3 hK3 hL0 hat3 hib
    go_wp2_with (at_builtin; (refine app1f w3 w3.heap.size rfl rfl _ _ 46 rfl 121 .nilIface 1 16 (by kernel_rfl) (by kernel_rfl) rfl (.slice AO nm cO) nm iF [.iface 75 (.pointer (some ⟨ib, 0, none⟩))] rfl rfl hrow3 rfl (by simp [Value.oneCell']) (by have := HX.out.2.2; have := hnm.out; omega) (by decide) ?_); intro v5 w5 full5 hr5 hF5 hc5)
    go_roundg (N - (j + 1) + 1)
    case measure => have := HX.out; omega
    case rel =>
     obtain ⟨hI3, hL0, hat3⟩ := HI3.out
     have hfi := HL.out.2
     refine ⟨j + 1, paint w3.heap.size 55 col3, full5, ms ++ [⟨ib, fb, db, g, cap, root, L, D, B⟩], by have := HX.out; omega, rfl, by simp, ?_, by rw [List.length_append]; have := HX.out.2.2.1; simp; omega⟩
     rw [take_snoc HL.out.1]
     refine ItI.add (m := ⟨ib, fb, db, g, cap, root, L, D, B⟩) (iv := .slice AO ms.length cO) hI3 ?_ (by simp only; rw [hL0]; simp) (by rw [hnm.out]; exact hr5) (by rw [hnm.out]; exact hF5) (by rw [hnm.out]; exact hc5)
     exact { st := by simp only; rw [hL0]; rw [hL0] at hat3; exact hat3, all := rfl, srt := hfi.srt, key := fun p hp => by have := hfi.len p hp; omega, byt := hfi.byte, ne := hfi.ne, val := hfi.val }
end
section
open Go.RowKit Fmt
theorem vals_filter (S : List Prs) (k : List Nat) : valsOf (S.filter fun L => decide (L ≠ [])) k = valsOf S k := by
 induction S with
 | nil => rfl
 | cons L S ih =>
  unfold valsOf at ih ⊢
  by_cases h : L = []
  ·subst h; simpa using ih
  ·rw [List.filter_cons_of_pos (by simpa using h), List.flatMap_cons, List.flatMap_cons, ih]
theorem Fmt.Mrg.filt {J : List Nat → Nat} {S : List Prs} {D : Prs} (h : Mrg J S D) : Mrg J (S.filter fun L => decide (L ≠ [])) D :=
 ⟨h.srt, fun p => by rw [vals_filter]; exact h.mem p⟩
theorem rem_start (ms : List Mi) : rem (ms.map fun m => (([] : Prs), m.L)) = cnt (ms.map fun m => m.L) := by
 unfold rem cnt
 rw [List.map_map, List.map_map]
 rfl
theorem cnt_filter (S : List Prs) : cnt (S.filter fun L => decide (L ≠ [])) ≤ cnt S := by
 induction S with
 | nil => exact Nat.le_refl _
 | cons L S ih =>
  have e : cnt (L :: S) = L.length + cnt S := rfl
  by_cases h : L = []
  ·subst h; simp only [List.filter_cons]; simpa [cnt] using ih
  ·rw [List.filter_cons_of_pos (by simpa using h)]
   have e2 : cnt (L :: S.filter fun L => decide (L ≠ [])) = L.length + cnt (S.filter fun L => decide (L ≠ [])) := rfl
   omega
set_option maxHeartbeats 2000000 in
set_option maxRecDepth 100000 in
theorem imerge_calls {w : World} {v : Value} {S : List Prs} {ea : Addr} {how : Nat} (h : SetsN w v S) (hF : ∀ L, L ∈ S → Fine L) (h200 : S.length ≤ 200) (hcnt : cnt S ≤ 65536) (hT : Tabs w fun _ => 0) (hD : Done w (fun _ => 0) 200 ea) (hh : how ≤ 2) :
  Calls Tryz.prog 8 #[v, .int .i64 (how : Int)] w fun e w' => ∃ v, e = .returned (.tuple #[v, .bool true]) ∧ Built w (mergedP S how) v w' := by
 obtain ⟨A, c, rfl, hc, hm⟩ := h.setv.len
 have hi := iters_calls h hF h200 hT hD
 have HS := Lib.hid (And.intro hF (And.intro hcnt (And.intro hh h200)))
 obtain ⟨N, hN⟩ : ∃ N, Hid (S.length = N) := ⟨_, Lib.hid rfl⟩
 rw [hN.out] at hi ⊢
 clear h hF h200 hcnt hT hD hh hc hm
 go_enter Tryz.func8, Tryz.ntmps8
 go_wp2_with fail
 refine hi.mono ?_
 rintro e w1 ⟨iv, iF, ms, col1, rfl, hI⟩
 obtain ⟨A1, c1, rfl⟩ := rowv hI.row.row
 have HI := Lib.hid hI
 clear hi hI
 obtain ⟨bb, hbb⟩ : ∃ v, Hid (w1.heap.size = v) := ⟨_, Lib.hid rfl⟩
 have hF1 : Fr (fun _ => False) w1 (w1.alloc (.cells [.slice none 0 0, .int .i64 0, .int .i8 0].toArray 52)) := (Fr.refl _ w1).alloc _
 have hK1 := Kp.news (col := col1) (C := fun d => d = 2) hF1 2 rfl
 have hB0 : Buf0 (w1.alloc (.cells [.slice none 0 0, .int .i64 0, .int .i8 0].toArray 52)) (paint w1.heap.size 2 col1) bb := ⟨Blk.newAt w1 _ _ _ hbb.out, paint_ge (by rw [hbb.out]; exact Nat.le_refl _)⟩
 have hmem : ∀ m, m ∈ ms → m.L ∈ S := fun m hm => by
  have : m.L ∈ ms.map fun m => m.L := List.mem_map_of_mem hm
  rw [HI.out.eq] at this
  exact (List.mem_filter.1 this).1
 have hlen : ms.length ≤ 1048576 := by
  have h1 := congrArg List.length HI.out.eq
  rw [List.length_map] at h1
  rw [h1]
  exact Nat.le_trans (List.length_filter_le _ _) (by have := HS.out.2.2.2; omega)
 have hv := vmerge_calls (ea := ea) (L := mergedP S how) hB0 (HI.out.tab.kp hK1 (by decide)) (HI.out.don.kp hK1 (by decide)) HS.out.2.2.1 hlen (HI.out.row.kp hK1 (by decide)) HI.out.iat (fun i m hm => (HI.out.its i m hm).1.kp hK1 (fun c h1 _ => by unfold kc at h1; omega) (by decide)) (fun m hm q hq => (HS.out.1 _ (hmem m hm)).len q hq) (by rw [rem_start, HI.out.eq]; exact Nat.le_trans (cnt_filter S) HS.out.2.1) (by rw [HI.out.eq]; exact (mergedP_mrg S how (fun L hL => (HS.out.1 L hL).srt)).filt)
 have hfn := function_calls (w1.alloc (.cells [.slice none 0 0, .int .i64 0, .int .i8 0].toArray 52)) HS.out.2.2.1
 have HK := Lib.hid hK1
 obtain ⟨nm, hnm⟩ : ∃ nm, Hid (ms.length = nm) := ⟨_, Lib.hid rfl⟩
 rw [hnm.out] at hv ⊢
 clear hF1 hK1 hB0 hmem hlen
 go_wp2_with fail
 rw [hbb.out]
 refine hfn.mono ?_
 rintro e w2 ⟨rfl, rfl⟩
 clear hfn
 go_wp2_with fail
 refine hv.mono ?_
 rintro e w3 ⟨rfl, D, B, root, fb, rb, buf, vb, full, col3, hF, hB, hK3⟩
 have hDl : 32 ≤ D.length := by have := hF.dlen; have := hF.h16; omega
 have hbf := hB.kbb
 obtain ⟨g, cap, rfl, hbg, hle, hcm⟩ : ∃ g cap, vb = .slice (some ⟨g, 0, none⟩) D.length cap ∧ Blk w3 g full 5 ∧ D.length ≤ cap ∧ cap ≤ maxLen := by
  rcases hbf.row with ⟨_, e, _⟩ | ⟨g, cap, e1, e2, e3, e4, _⟩
  ·omega
  ·exact ⟨g, cap, e1, e2, e3, e4⟩
 have hby := bufbytes_calls hbf (by omega)
 have hbs : Byts w3 g 0 D := ⟨fun j c hj => by
  rw [Nat.zero_add]
  refine hbg.cell j ?_
  have h1 := u8s_at hj
  rw [← hB.kds] at h1
  have hl := (List.getElem?_eq_some_iff.1 hj).1
  rw [List.getElem?_take_of_lt hl] at h1
  exact h1⟩
 have HG := Lib.hid (And.intro hF (And.intro (⟨hbs.1⟩ : Byts w3.drew g 0 D) (And.intro hle (And.intro hcm (And.intro (hB.cv g rfl) hK3)))))
 clear hF hbs hle hcm hB hbf hbg hK3 hDl hv
 go_wp2_with fail
 refine hby.mono ?_
 rintro e w4 ⟨rfl, rfl⟩
 clear hby
 go_wp2_with fail
 go_ret2
 obtain ⟨h1, h2, h3, h4, h5, h6⟩ := HG.out
 have hsz : w.heap.size ≤ w1.heap.size := HI.out.fr.size
 have hk := (HK.out.mono (D := fun d => 1 ≤ d) fun c (h : c = 2) => by omega).trans h6
 refine ⟨_, rfl, g, cap, D, B, root, rfl, h1, h2, h3, h4, ?_, (HI.out.fr.trans hk.fr fun k hk e => by have := HI.out.old k hk; omega).drew⟩
 rcases Nat.lt_or_ge g w.heap.size with hg | hg
 ·have e1 := hk.same g (by omega)
  have e2 := HI.out.old g hg
  omega
 ·exact hg
end
section
open Go.RowKit Fmt
/-- Transitions as cells. -/
def acells (l : List (Nat × Nat × Nat)) : List Value := l.flatMap fun t => [.int .u8 (t.1 : Int), .int .u64 (t.2.1 : Int), .int .i64 (t.2.2 : Int)]
/-- A state that was read. -/
def RdPost (w : World) (s : Nd) (e : Ending) (w' : World) : Prop := ∃ (A : Value) (full : List Value) (fo : Nat), e = .returned (.tuple #[.agg #[.bool s.fin, .int .u64 (fo : Int), A], .bool true]) ∧ (s.fin = true → fo = s.fout) ∧ RowF w' 98 3 A s.arcs.length full ∧ full.take (s.arcs.length * 3) = acells s.arcs ∧ (∀ b, A.ownBlock = some b → w.heap.size ≤ b) ∧ Fr (fun _ => False) w w'
/-- The reader takes a number. -/
theorem num_take {w : World} {rb g n cap a m S ad : Nat} {D : List Nat} (hD : Byts w g 0 D) (hb : Blk w rb (rdc g n cap (a + m)) 177) (ha : 15 ≤ a) (hm : m ≤ 8) (hn : D.length ≤ cap) (had : a + m < ad) (hadn : ad < D.length) (hmx : cap ≤ maxLen) (hgr : ¬ g = rb) (hS : S ≤ a + 1) (hby : ∀ q x, S ≤ q → q ≤ ad → D[q]? = some x → x < 256) :
  Calls Tryz.prog 80 #[.pointer (some ⟨rb, 0, none⟩), .int .i64 (m : Int)] w fun e w' => (e = .returned (.slice (some ⟨g, a + 1, none⟩) m (cap - (a + 1))) ∧ ∀ W, Fr (fun k => k = rb) w' W → Calls Tryz.prog 22 #[.slice (some ⟨g, a + 1, none⟩) m (cap - (a + 1))] W fun e W' => e = .returned (.int .u64 (unp (cutN D (a + 1) m) : Int)) ∧ W' = W) ∧ Blk w' rb (rdc g n cap a) 177 ∧ Fr (fun k => k = rb) w w' := by
 refine (take_calls (a := a) (m := m) hb ha hm (by omega) hmx).mono ?_
 rintro e w' ⟨rfl, h1, h2⟩
 refine ⟨⟨rfl, fun W hW => ?_⟩, h1, h2⟩
 exact unpacked_calls (((hD.cut (a + 1) m (by omega)).fr h2 hgr).fr hW hgr) (cutN_len (by omega)) (cut_lt hby hS (by omega)) hm
/-- What readOne has in memory. -/
def RoS (w : World) (g n cap q i o a : Nat) (X : World) : Prop := Fr (fun _ => False) w X ∧ Blk X w.heap.size [.bool false, .int .u64 0, .slice none 0 0] 94 ∧ Blk X (w.heap.size + 1) (rdc g n cap q) 177 ∧ Blk X (w.heap.size + 2) [.int .u8 (i : Int), .int .u64 (o : Int), .int .i64 (a : Int)] 98
theorem RoS.rd {w X W : World} {g n cap q q' i o a : Nat} (h : RoS w g n cap q i o a X) (hb : Blk W (w.heap.size + 1) (rdc g n cap q') 177) (hF : Fr (fun k => k = w.heap.size + 1) X W) : RoS w g n cap q' i o a W :=
 ⟨h.1.trans hF (fun k hk e => by omega), h.2.1.fr hF (by omega), hb, h.2.2.2.fr hF (by omega)⟩
theorem RoS.set {w X : World} {g n cap q i o a i' o' a' : Nat} (h : RoS w g n cap q i o a X) (j : Nat) (v : Value) (he : ([.int .u8 (i : Int), .int .u64 (o : Int), .int .i64 (a : Int)] : List Value).set j v = [.int .u8 (i' : Int), .int .u64 (o' : Int), .int .i64 (a' : Int)]) : RoS w g n cap q i' o' a' (X.setCell ⟨w.heap.size + 2, j, none⟩ v) := by
 have hb := h.2.2.2.set j v
 rw [he] at hb
 exact ⟨h.1.setCell (fun e => by simp only at e; omega) v, h.2.1.set_ne (by simp only; omega) v, h.2.2.1.set_ne (by simp only; omega) v, hb⟩
theorem res_cell {P : Program} {fn : Func} {p u : Tmp} {ty : TypeId} (h : fn.results = #[.cell p ty, .tmp u]) (tmps : Array Value) (w : World) (g : Nat) (t : TypeId) (cs : Array Value) (fr : Nat × Nat) (hp : tmps.getD p undef = .pointer (some ⟨g, 0, none⟩)) (hg : w.heap[g]? = some (.cells cs t fr))
  (hu : ((P.underlying ty).map fun d => (match d with | .struct _ | .array _ _ => true | _ => false)) = some true) (hi : (P.info? ty).map (·.size) = some cs.size) : (results fn tmps).run P w = .ok (.tuple #[.agg cs, tmps.getD u undef]) w := by
 obtain ⟨d, hu, hd⟩ := Option.map_eq_some_iff.1 hu
 rw [results_cell_tmp h, hp]
 simp [asAddr, Result.andThen, run_loadVar_row w g t ty cs fr d hg hu (by cases d <;> first | rfl | exact hd) hi]
theorem RoS.post {w X : World} {g n cap q i o a : Nat} (h : RoS w g n cap q i o a X) : ∀ W, W = ((((X.alloc (.cells #[.int .u8 (i : Int), .int .u64 (o : Int), .int .i64 (a : Int)] 98)).setCell ⟨w.heap.size, 0, none⟩ (.bool false)).setCell ⟨w.heap.size, 1, none⟩ (.int .u64 0)).setCell ⟨w.heap.size, 2, none⟩ (.slice (some ⟨X.heap.size, 0, none⟩) 1 1)).drew →
  Blk W w.heap.size [.bool false, .int .u64 0, .slice (some ⟨X.heap.size, 0, none⟩) 1 1] 94 ∧ RdPost w ⟨false, 0, [(i, o, a)]⟩ (.returned (.tuple #[.agg #[.bool false, .int .u64 0, .slice (some ⟨X.heap.size, 0, none⟩) 1 1], .bool true])) W := by
 rintro W rfl
 have hs := h.1.size
 have h1 := h.2.1.lt
 have hb : Blk (X.alloc (.cells #[.int .u8 (i : Int), .int .u64 (o : Int), .int .i64 (a : Int)] 98)) X.heap.size [.int .u8 (i : Int), .int .u64 (o : Int), .int .i64 (a : Int)] 98 := Blk.new X _ 98
 refine ⟨((((h.2.1.alloc _).set 0 _).set 1 _).set 2 _), .slice (some ⟨X.heap.size, 0, none⟩) 1 1, [.int .u8 (i : Int), .int .u64 (o : Int), .int .i64 (a : Int)], 0, rfl, fun _ => rfl, .inr ⟨X.heap.size, 1, rfl, ?_, by simp, by decide, rfl⟩, rfl, fun b hb => ?_, ?_⟩
 ·exact ((hb.set_ne (a := ⟨w.heap.size, 0, none⟩) (by simp only; omega) _).set_ne (a := ⟨w.heap.size, 1, none⟩) (by simp only; omega) _).set_ne (a := ⟨w.heap.size, 2, none⟩) (by simp only; omega) _
 ·simp [Value.ownBlock] at hb; omega
 ·exact ((((h.1.alloc _).setCell (fun e => by simp only at e; omega) _).setCell (fun e => by simp only at e; omega) _).setCell (fun e => by simp only at e; omega) _).drew
theorem RoS.cells {w X : World} {g n cap q i o a : Nat} (h : RoS w g n cap q i o a X) : X.cell? ⟨w.heap.size + 2, 0, none⟩ = some (.int .u8 (i : Int)) ∧ X.cell? ⟨w.heap.size + 2, 1, none⟩ = some (.int .u64 (o : Int)) ∧ X.cell? ⟨w.heap.size + 2, 2, none⟩ = some (.int .i64 (a : Int)) ∧ X.cell? ⟨w.heap.size + 1, 2, none⟩ = some (.bool false) ∧
  (∀ ob, (X.alloc ob).cell? ⟨w.heap.size + 2, 0, none⟩ = some (.int .u8 (i : Int)) ∧ (X.alloc ob).cell? ⟨w.heap.size + 2, 1, none⟩ = some (.int .u64 (o : Int)) ∧ (X.alloc ob).cell? ⟨w.heap.size + 2, 2, none⟩ = some (.int .i64 (a : Int)) ∧ (X.alloc ob).cell? ⟨w.heap.size + 1, 2, none⟩ = some (.bool false)) ∧
  (∀ ob, (X.alloc ob).cell? ⟨w.heap.size, 0, none⟩ = some (.bool false) ∧ (X.alloc ob).cell? ⟨w.heap.size, 1, none⟩ = some (.int .u64 0) ∧ (X.alloc ob).cell? ⟨w.heap.size, 2, none⟩ = some (.slice none 0 0)) ∧
  (∀ ob, (X.alloc ob).frozen? ⟨w.heap.size, 0, none⟩ = false ∧ (X.alloc ob).frozen? ⟨w.heap.size, 1, none⟩ = false ∧ (X.alloc ob).frozen? ⟨w.heap.size, 2, none⟩ = false) ∧
  (∀ ob v0 v1 v2, ((((X.alloc ob).setCell ⟨w.heap.size, 0, none⟩ v0).setCell ⟨w.heap.size, 1, none⟩ v1).setCell ⟨w.heap.size, 2, none⟩ v2).cell? ⟨w.heap.size + 2, 0, none⟩ = some (.int .u8 (i : Int)) ∧ ((((X.alloc ob).setCell ⟨w.heap.size, 0, none⟩ v0).setCell ⟨w.heap.size, 1, none⟩ v1).setCell ⟨w.heap.size, 2, none⟩ v2).cell? ⟨w.heap.size + 2, 1, none⟩ = some (.int .u64 (o : Int)) ∧ ((((X.alloc ob).setCell ⟨w.heap.size, 0, none⟩ v0).setCell ⟨w.heap.size, 1, none⟩ v1).setCell ⟨w.heap.size, 2, none⟩ v2).cell? ⟨w.heap.size + 2, 2, none⟩ = some (.int .i64 (a : Int)) ∧ ((((X.alloc ob).setCell ⟨w.heap.size, 0, none⟩ v0).setCell ⟨w.heap.size, 1, none⟩ v1).setCell ⟨w.heap.size, 2, none⟩ v2).cell? ⟨w.heap.size + 1, 2, none⟩ = some (.bool false)) := by
 obtain ⟨-, h1, h2, h3⟩ := h
 refine ⟨h3.cell 0 rfl, h3.cell 1 rfl, h3.cell 2 rfl, h2.cell 2 rfl, fun ob => ⟨(h3.alloc ob).cell 0 rfl, (h3.alloc ob).cell 1 rfl, (h3.alloc ob).cell 2 rfl, (h2.alloc ob).cell 2 rfl⟩, fun ob => ⟨(h1.alloc ob).cell 0 rfl, (h1.alloc ob).cell 1 rfl, (h1.alloc ob).cell 2 rfl⟩, fun ob => ⟨(h1.alloc ob).frz 0, (h1.alloc ob).frz 1, (h1.alloc ob).frz 2⟩, fun ob v0 v1 v2 => ?_⟩
 have e1 := (((h3.alloc ob).set_ne (a := ⟨w.heap.size, 0, none⟩) (by simp only; omega) v0).set_ne (a := ⟨w.heap.size, 1, none⟩) (by simp only; omega) v1).set_ne (a := ⟨w.heap.size, 2, none⟩) (by simp only; omega) v2
 have e2 := (((h2.alloc ob).set_ne (a := ⟨w.heap.size, 0, none⟩) (by simp only; omega) v0).set_ne (a := ⟨w.heap.size, 1, none⟩) (by simp only; omega) v1).set_ne (a := ⟨w.heap.size, 2, none⟩) (by simp only; omega) v2
 exact ⟨e1.cell 0 rfl, e1.cell 1 rfl, e1.cell 2 rfl, e2.cell 2 rfl⟩
set_option maxHeartbeats 4000000 in
set_option maxRecDepth 100000 in
theorem rdone_calls {w : World} {g n cap gb addr S i o a : Nat} {D : List Nat} (hD : Byts w g 0 D) (hn : D.length = n) (hg : g < w.heap.size) (hc : n ≤ cap) (hmx : cap ≤ maxLen) (hB : Blk w gb (u8s (bkL 256)) 5) (h : OneAt codesN backN D S addr i o a) (hby : ∀ q x, S ≤ q → q ≤ addr → D[q]? = some x → x < 256) (hi : i < 256) (h16 : 16 ≤ addr) (h17 : addr + 3 ≤ n) :
  Calls Tryz.prog 58 #[.slice (some ⟨g, 0, none⟩) n cap, .int .i64 (addr : Int), .slice (some ⟨gb, 0, none⟩) 64 64] w fun e w' => RdPost w ⟨false, 0, [(i, o, a)]⟩ e w' := by
 obtain ⟨h0, k, e0, h128, h256, hal, hcode, hrest⟩ := h.ex
 have ra := hD.at_ addr h0 e0
 rw [Nat.zero_add] at ra
 have rb : ∀ o1 o2, ((w.alloc o1).alloc o2).cell? ⟨g, addr, none⟩ = some (.int .u8 (h0 : Int)) := fun o1 o2 => (((Fr.refl (fun _ => False) w).alloc o1).alloc o2).cell ra (fun h => h)
 clear ra
 obtain ⟨q, rfl⟩ : ∃ q, addr = q + 1 := ⟨addr - 1, by omega⟩
 have e1 : ((q + 1 : Nat) : Int) < (n : Int) := by omega
 have e2 : IntKind.i64.wrap (q : Int) = (q : Int) := by unfold maxLen at hmx; exact IntWalk.i64_in _ (by omega)
 obtain ⟨r, hr⟩ : ∃ r, Hid (h0 % 64 = r) := ⟨_, Lib.hid rfl⟩
 have e3 : (h0 : Int) % 64 = (r : Int) := by rw [← hr.out]; omega
 rw [hr.out] at hcode
 have H17 := Lib.hid h17
 clear h17
 have HH := Lib.hid (And.intro hD (And.intro hn (And.intro hg (And.intro hc (And.intro hmx (And.intro hB hby))))))
 go_enter Tryz.func58, Tryz.ntmps58
 obtain ⟨p, rfl⟩ : ∃ p, k = p + 1 := ⟨k - 1, by rcases hrest with ⟨_, _, _, h⟩ | ⟨_, _, _, _, _, _, h, _⟩ <;> omega⟩
 have hp15 : 15 ≤ p := by rcases hrest with ⟨_, _, _, h⟩ | ⟨_, _, _, _, _, _, h, h', _⟩ <;> omega
 have hib : r ≠ 0 → backN r = i → (bkL 256)[r]? = some i := fun h1 h2 => by rw [bkL_at (by rw [← hr.out]; omega), if_pos ⟨h1, by omega⟩, h2]
 have HI := Lib.hid (And.intro hib (And.intro hcode (And.intro hrest (And.intro hp15 (And.intro hal e0)))))
 clear hD hn hg hc hmx hB hby h hib hrest hp15 hal e0 h16 hi h128 h256
 go_upto_region 5 with fail
 clear rb
 refine wp_named (fun X => RoS w g n cap q 0 0 0 X) ⟨((Fr.refl _ w).alloc _).alloc _ |>.alloc _, ?_, ?_, ?_⟩ ?_
 ·exact ((Blk.new w [.bool false, .int .u64 0, .slice none 0 0] 94).alloc _).alloc _
 ·exact (Blk.newAt (w.alloc _) (rdc g n cap q) 177 (w.heap.size + 1) (by simp)).alloc _
 ·exact Blk.newAt _ [.int .u8 0, .int .u64 0, .int .i64 0] 98 (w.heap.size + 2) (by simp)
 intro X1 hs
 have HS1 := Lib.hid hs
 clear hs e1 e2
 have hgr : ¬ g = w.heap.size + 1 := by have := HH.out.2.2.1; omega
 rcases hcode with ⟨rfl, hk, hDk⟩ | ⟨hr0, hk, hbk⟩
 case' inl =>
  obtain rfl : q = p + 1 := by omega
  have hcall := rone_calls (a := p) HS1.out.2.2.1 HI.out.2.2.2.1 (by have := HI.out.2.2.2.2.1; have := HH.out; omega) HH.out.2.2.2.2.1 hgr (by have h := (HH.out.1.fr HS1.out.1 (fun h => h)).at_ _ _ hDk; rw [Nat.zero_add] at h; exact h)
  clear hk hDk
  go_upto_region 8 with (go_at_call 79; refine hcall.mono ?_; rintro e w' ⟨rfl, h1, h2⟩; have HS2 := Lib.hid (HS1.out.rd h1 h2); have c0 := HS2.out.2.2.2.cell 0 rfl; have z0 := HS2.out.2.2.2.frz 0; clear h1 h2 hcall)
  refine wp_named (fun X => RoS w g n cap p i 0 0 X) (HS2.out.set 0 _ rfl) ?_
  clear c0 z0 HS2 HS1
 case' inr =>
  obtain rfl : p = q := by omega
  have c0 := HS1.out.2.2.2.cell 0 rfl
  have z0 := HS1.out.2.2.2.frz 0
  have rb : X1.cell? ⟨gb, r, none⟩ = some (.int .u8 (i : Int)) := (HH.out.2.2.2.2.2.1.fr HS1.out.1 (fun h => h)).cell r (by simp [u8s, HI.out.1 hr0 hbk])
  have f0 : ¬ (r : Int) = 0 := by omega
  have f1 : (r : Int) < 64 := by have := hr.out; omega
  clear hr0 hk hbk
  go_upto_region 8 with fail
  refine wp_named (fun X => RoS w g n cap p i 0 0 X) (HS1.out.set 0 _ rfl) ?_
  clear c0 z0 HS1 rb f0 f1
 all_goals (
  intro X2 hs
  have HS2 := Lib.hid hs
  clear hs e3)
 all_goals rcases HI.out.2.2.1 with ⟨x1, rfl, x3, x4⟩ | ⟨x1, t, u, y1, y2, y3, y4, y5, y6, y7, y8, y9⟩
 any_goals (
  have hap := x3
  obtain rfl : a = p := by omega
  have e4 : (h0 : Int) / 64 % 2 = 1 := by omega
  have r1 := HS2.out.2.2.1.cell 1 rfl
  have c2 := HS2.out.2.2.2.cell 2 rfl
  have z2 := HS2.out.2.2.2.frz 2
  clear hap x1 x3 x4
  go_upto_region 10 with fail
  refine wp_named (fun X => RoS w g n cap a i 0 a X) (HS2.out.set 2 _ rfl) ?_
  clear r1 c2 z2 HS2 e4
  intro X3 hs
  have HS3 := Lib.hid hs
  clear hs
  obtain ⟨k0, k1, k2, b2, hA, hB, hC, hD⟩ := HS3.out.cells
  refine wp_region_seqV (fun W => W.cell? ⟨w.heap.size + 2, 0, none⟩ = some (.int .u8 (i : Int)) ∧ W.cell? ⟨w.heap.size + 2, 1, none⟩ = some (.int .u64 0) ∧ W.cell? ⟨w.heap.size + 2, 2, none⟩ = some (.int .i64 (a : Int)) ∧ W.cell? ⟨w.heap.size + 1, 2, none⟩ = some (.bool false)) (fun i => decide (i ≠ 1 ∧ i ≠ 8)) (fun i => ![0, 6].contains i && decide (i ≠ 1 ∧ i ≠ 8)) (fun i => false) [0, 3, 4, 5, 6, 7, 1, 2, 8, 9] (by kernel_rfl) (by kernel_rfl) (fun c a d v w h => by cases d <;> exact h) ⟨k0, k1, k2, b2⟩ ?_
  (apply seqV_read (ho := rfl) (hr := rfl) (hp := rfl) (hg := rfl); (rintro w' ⟨q0, q1, q2, q3⟩; go_simp; rfl))
  go_simp
  iterate 3 (apply seqV_pure (ho := rfl) (hr := rfl) (hg := rfl); (intro w'; go_simp; rfl))
  (apply seqV_read (ho := rfl) (hr := rfl) (hp := rfl) (hg := rfl); (rintro w' ⟨q0, q1, q2, q3⟩; go_simp; rfl))
  go_simp
  iterate 1 (apply seqV_pure (ho := rfl) (hr := rfl) (hg := rfl); (intro w'; go_simp; rfl))
  refine seqV_do rfl rfl fun K hK => ?_
  go_simp
  refine hK _ _ (fun _ => hA _) ?_
  clear hK K
  go_simp
  iterate 1 (apply seqV_pure (ho := rfl) (hr := rfl) (hg := rfl); (intro w'; go_simp; rfl))
  refine seqV_do rfl rfl fun K hK => ?_
  go_simp
  refine hK _ _ (fun _ => hD _ _ _ _) ?_
  clear hK K
  go_simp
  iterate 1 (apply seqV_pure (ho := rfl) (hr := rfl) (hg := rfl); (intro w'; go_simp; rfl))
  unfold seqV
  go_simp
  go_wp2_with fail
  obtain ⟨hb, hp⟩ := HS3.out.post _ rfl
  refine bodyPost_ret_by (res_cell rfl _ _ w.heap.size 94 _ (0, 0) rfl hb (by kernel_rfl) (by kernel_rfl)) rfl ?_
  exact hp)
 all_goals (
  obtain ⟨S1, rfl⟩ : ∃ S1, S = S1 + 1 := ⟨S - 1, by omega⟩
  obtain rfl : p = S1 + u + t + 1 := by omega
  have e4 : (h0 : Int) / 64 % 2 = 0 := by omega
  obtain ⟨y, hy⟩ : ∃ y, Hid (t * 16 + u = y) := ⟨_, Lib.hid rfl⟩
  have hy' := hy.out
  have e5 : (y : Int) / 16 = (t : Int) := by omega
  have e6 : (y : Int) % 16 = (u : Int) := by omega
  have e8 : (t : Int) % 256 = (t : Int) := by omega
  obtain ⟨hDt, hnD, hgw, hcn, hmx, -, hbyt⟩ := HH.out
  have hal := HI.out.2.2.2.2.1
  have hcap : S1 + u + t + 3 < cap := by have := H17.out; omega
  have h1 := rone_calls (a := S1 + u + t) HS2.out.2.2.1 (by omega) (by omega) hmx hgr (by have h := (hDt.fr HS2.out.1 (fun h => h)).at_ (S1 + u + t + 1) (t * 16 + u) (by simpa using y6); rw [Nat.zero_add] at h; exact h)
  rw [hy.out] at h1
  have HY := Lib.hid (And.intro y1 (And.intro y2 (And.intro y5 (And.intro y7 (And.intro y8 (And.intro y9 (And.intro hcap (And.intro hal (And.intro hDt (And.intro hnD (And.intro hcn (And.intro hmx hbyt))))))))))))
  clear x1 y1 y2 y3 y4 y5 y6 y7 y8 y9 hy' hDt hnD hgw hcn hmx hbyt hal hcap
  go_wp2_with fail
  refine h1.mono ?_
  rintro e W3 ⟨rfl, hb3, hF3⟩
  have HS3 := Lib.hid (HS2.out.rd hb3 hF3)
  clear h1 hb3 hF3 HS2
  obtain ⟨y1, y2, y5, y7, y8, y9, hcap, hal, hDt, hnD, hcn, hmx, hbyt⟩ := HY.out
  have h1 := num_take (a := S1 + u) (m := t) (S := S1 + 1) (hDt.fr HS3.out.1 (fun h => h)) HS3.out.2.2.1 (by omega) y1 (by omega) (by omega) hal hmx hgr (by omega) hbyt
  clear y1 y2 y5 y7 y8 y9 hcap hal hDt hnD hcn hmx hbyt
  go_wp2_with fail
  refine h1.mono ?_
  rintro e W4 ⟨⟨rfl, hu⟩, hb4, hF4⟩
  have HS4 := Lib.hid (HS3.out.rd hb4 hF4)
  have hu' := hu W4 (Fr.refl _ _)
  rw [show S1 + u + 1 = S1 + 1 + u by omega, HY.out.2.2.2.1] at hu'
  clear h1 hb4 hF4 HS3 hu
  rw [show S1 + u + 1 = S1 + 1 + u by omega]
  go_wp2_with fail
  refine hu'.mono ?_
  rintro e W5 ⟨rfl, rfl⟩
  clear hu'
  obtain ⟨y1, y2, y5, y7, y8, y9, hcap, hal, hDt, hnD, hcn, hmx, hbyt⟩ := HY.out
  have h1 := num_take (a := S1) (m := u) (S := S1 + 1) (hDt.fr HS4.out.1 (fun h => h)) HS4.out.2.2.1 (by omega) y2 (by omega) (by omega) hal hmx hgr (by omega) hbyt
  clear y1 y2 y5 y7 y8 y9 hcap hal hDt hnD hcn hmx hbyt
  go_wp2_with fail
  refine h1.mono ?_
  rintro e W6 ⟨⟨rfl, hu⟩, hb6, hF6⟩
  have HS6 := Lib.hid (HS4.out.rd hb6 hF6)
  have hu' := hu W6 (Fr.refl _ _)
  rw [HY.out.2.2.2.2.1] at hu'
  clear h1 hb6 hF6 HS4 hu
  go_wp2_with fail
  refine hu'.mono ?_
  rintro e W7 ⟨rfl, rfl⟩
  clear hu'
  have c1 := HS6.out.2.2.2.cell 1 rfl
  have z1 := HS6.out.2.2.2.frz 1
  go_upto_region 14 with fail
  refine wp_named (fun X => RoS w g n cap S1 i o 0 X) (HS6.out.set 1 _ rfl) ?_
  clear c1 z1 HS6
  intro X7 hs
  have HS7 := Lib.hid hs
  clear hs
  have r1 := HS7.out.2.2.1.cell 1 rfl
  have c2 := HS7.out.2.2.2.cell 2 rfl
  have z2 := HS7.out.2.2.2.frz 2
  have e7 : IntKind.i64.wrap ((S1 : Int) + 1) = ((S1 + 1 : Nat) : Int) := by have := HY.out; unfold maxLen at this; rw [IntWalk.i64_in _ (by omega)]; omega
  have htg := target_calls X7 (f := S1 + 1) (d := delta (S1 + 1) a) (by unfold delta; split <;> omega) (by have := HY.out; unfold maxLen at this; omega)
  rw [show (if delta (S1 + 1) a = 0 then 0 else S1 + 1 - delta (S1 + 1) a) = a by have := HY.out.2.2.2.2.2.1; unfold delta; (repeat' split) <;> omega] at htg
  go_wp2_with fail
  refine htg.mono ?_
  rintro e W8 ⟨rfl, rfl⟩
  clear htg
  go_upto_region 15 with fail
  refine wp_named (fun X => RoS w g n cap S1 i o a X) (HS7.out.set 2 _ rfl) ?_
  clear r1 c2 z2 HS7 e4 e5 e6 e7 e8
  intro X3 hs
  have HS3 := Lib.hid hs
  clear hs
  obtain ⟨k0, k1, k2, b2, hA, hB, hC, hD⟩ := HS3.out.cells
  refine wp_region_seqV (fun W => W.cell? ⟨w.heap.size + 2, 0, none⟩ = some (.int .u8 (i : Int)) ∧ W.cell? ⟨w.heap.size + 2, 1, none⟩ = some (.int .u64 (o : Int)) ∧ W.cell? ⟨w.heap.size + 2, 2, none⟩ = some (.int .i64 (a : Int)) ∧ W.cell? ⟨w.heap.size + 1, 2, none⟩ = some (.bool false)) (fun i => decide (i ≠ 1 ∧ i ≠ 8)) (fun i => ![0, 6].contains i && decide (i ≠ 1 ∧ i ≠ 8)) (fun i => false) [0, 3, 4, 5, 6, 7, 1, 2, 8, 9] (by kernel_rfl) (by kernel_rfl) (fun c a d v w h => by cases d <;> exact h) ⟨k0, k1, k2, b2⟩ ?_
  (apply seqV_read (ho := rfl) (hr := rfl) (hp := rfl) (hg := rfl); (rintro w' ⟨q0, q1, q2, q3⟩; go_simp; rfl))
  go_simp
  iterate 3 (apply seqV_pure (ho := rfl) (hr := rfl) (hg := rfl); (intro w'; go_simp; rfl))
  (apply seqV_read (ho := rfl) (hr := rfl) (hp := rfl) (hg := rfl); (rintro w' ⟨q0, q1, q2, q3⟩; go_simp; rfl))
  go_simp
  iterate 1 (apply seqV_pure (ho := rfl) (hr := rfl) (hg := rfl); (intro w'; go_simp; rfl))
  refine seqV_do rfl rfl fun K hK => ?_
  go_simp
  refine hK _ _ (fun _ => hA _) ?_
  clear hK K
  go_simp
  iterate 1 (apply seqV_pure (ho := rfl) (hr := rfl) (hg := rfl); (intro w'; go_simp; rfl))
  refine seqV_do rfl rfl fun K hK => ?_
  go_simp
  refine hK _ _ (fun _ => hD _ _ _ _) ?_
  clear hK K
  go_simp
  iterate 1 (apply seqV_pure (ho := rfl) (hr := rfl) (hg := rfl); (intro w'; go_simp; rfl))
  unfold seqV
  go_simp
  go_wp2_with fail
  obtain ⟨hb, hp⟩ := HS3.out.post _ rfl
  refine bodyPost_ret_by (res_cell rfl _ _ w.heap.size 94 _ (0, 0) rfl hb (by kernel_rfl) (by kernel_rfl)) rfl ?_
  exact hp)
end
section
open Go.RowKit Fmt
abbrev Arcs := List (Nat × Nat × Nat)
theorem acells_len (l : Arcs) : (acells l).length = l.length * 3 := by
 induction l with
 | nil => rfl
 | cons a l ih => unfold acells at *; rw [List.flatMap_cons, List.length_append, ih]; simp; omega
theorem acells_app (a b : Arcs) : acells (a ++ b) = acells a ++ acells b := by simp [acells]
theorem acells_at {l : Arcs} {i : Nat} {x : Nat × Nat × Nat} (h : l[i]? = some x) : (acells l)[i * 3]? = some (.int .u8 (x.1 : Int)) ∧ (acells l)[i * 3 + 1]? = some (.int .u64 (x.2.1 : Int)) ∧ (acells l)[i * 3 + 2]? = some (.int .i64 (x.2.2 : Int)) := by
 induction l generalizing i with
 | nil => simp at h
 | cons a l ih =>
  have e : acells (a :: l) = [.int .u8 (a.1 : Int), .int .u64 (a.2.1 : Int), .int .i64 (a.2.2 : Int)] ++ acells l := rfl
  cases i with
  | zero => simp at h; subst h; rw [e]; simp
  | succ i =>
   simp at h
   obtain ⟨h1, h2, h3⟩ := ih h
   rw [e]
   refine ⟨?_, ?_, ?_⟩ <;> (rw [List.getElem?_append_right (by simp; omega)]; simp only [List.length_cons, List.length_nil])
   ·rw [show (i + 1) * 3 - (0 + 1 + 1 + 1) = i * 3 by omega]; exact h1
   ·rw [show (i + 1) * 3 + 1 - (0 + 1 + 1 + 1) = i * 3 + 1 by omega]; exact h2
   ·rw [show (i + 1) * 3 + 2 - (0 + 1 + 1 + 1) = i * 3 + 2 by omega]; exact h3
theorem acells_set {l : Arcs} {i : Nat} {x : Nat × Nat × Nat} (h : l[i]? = some x) (o t : Nat) : (acells l).set (i * 3 + 1) (.int .u64 (o : Int)) = acells (l.set i (x.1, o, x.2.2)) ∧ (acells l).set (i * 3 + 2) (.int .i64 (t : Int)) = acells (l.set i (x.1, x.2.1, t)) := by
 induction l generalizing i with
 | nil => simp at h
 | cons a l ih =>
  have e : ∀ (a : Nat × Nat × Nat) (l : Arcs), acells (a :: l) = .int .u8 (a.1 : Int) :: .int .u64 (a.2.1 : Int) :: .int .i64 (a.2.2 : Int) :: acells l := fun _ _ => rfl
  cases i with
  | zero => simp at h; subst h; simp [e]
  | succ i =>
   simp at h
   obtain ⟨h1, h2⟩ := ih h
   rw [e, show (i + 1) * 3 + 1 = (i * 3 + 1) + 1 + 1 + 1 by omega, show (i + 1) * 3 + 2 = (i * 3 + 2) + 1 + 1 + 1 by omega]
   simp only [List.set_cons_succ]
   rw [h1, h2, e, e]
   exact ⟨rfl, rfl⟩
/-- The first i done, the others not yet. -/
def mix (f g : Nat × Nat × Nat → Nat × Nat × Nat) (i : Nat) (l : Arcs) : Arcs := (l.take i).map f ++ (l.drop i).map g
theorem mix_len (f g : Nat × Nat × Nat → Nat × Nat × Nat) (i : Nat) (l : Arcs) : (mix f g i l).length = l.length := by unfold mix; simp; omega
theorem mix_zero (f g : Nat × Nat × Nat → Nat × Nat × Nat) (l : Arcs) : mix f g 0 l = l.map g := by simp [mix]
theorem mix_all (f g : Nat × Nat × Nat → Nat × Nat × Nat) (l : Arcs) : mix f g l.length l = l.map f := by simp [mix]
theorem mix_at {f g : Nat × Nat × Nat → Nat × Nat × Nat} {i : Nat} {l : Arcs} {x : Nat × Nat × Nat} (h : l[i]? = some x) : (mix f g i l)[i]? = some (g x) ∧ (mix f g i l).set i (f x) = mix f g (i + 1) l := by
 have hl := (List.getElem?_eq_some_iff.1 h).1
 have e1 : (l.take i).length = i := by simp; omega
 have e2 : l.drop i = x :: l.drop (i + 1) := by
  rw [List.drop_eq_getElem_cons hl]
  congr 1
  exact (List.getElem?_eq_some_iff.1 h).2
 have e3 : l.take (i + 1) = l.take i ++ [x] := by rw [List.take_add_one, h]; rfl
 unfold mix
 constructor
 ·rw [List.getElem?_append_right (by simp; omega), List.length_map, e1, e2]; simp
 ·rw [List.set_append_right _ _ (by simp; omega), List.length_map, e1, e2, e3]; simp
/-- What readMany has in memory. -/
structure RmS (w : World) (g n cap q : Nat) (fin : Bool) (fo : Nat) (A : Value) (l : Arcs) (fa : List Value) (V : Value) (dl : List Nat) (fd : List Value) (X : World) : Prop where
 fr : Fr (fun _ => False) w X
 b0 : Blk X w.heap.size [.bool false, .int .u64 0, .slice none 0 0] 94
 rd : Blk X (w.heap.size + 1) (rdc g n cap q) 177
 st : Blk X (w.heap.size + 2) [.bool fin, .int .u64 (fo : Int), A] 94
 ar : RowF X 98 3 A l.length fa
 ac : fa.take (l.length * 3) = acells l
 ao : ∀ b, A.ownBlock = some b → w.heap.size + 3 ≤ b
 dr : RowF X 40 1 V dl.length fd
 dc : ∀ (i x : Nat), dl[i]? = some x → fd[i]? = some (.int .u64 (x : Int))
 dd : ∀ b, V.ownBlock = some b → w.heap.size + 3 ≤ b
 ne : ∀ b, A.ownBlock = some b → ¬ V.ownBlock = some b
section
variable {w X W : World} {g n cap q q' : Nat} {fin : Bool} {fo : Nat} {A : Value} {l : Arcs} {fa : List Value} {V : Value} {dl : List Nat} {fd : List Value}
theorem RmS.move (h : RmS w g n cap q fin fo A l fa V dl fd X) (hb : Blk W (w.heap.size + 1) (rdc g n cap q') 177) (hF : Fr (fun k => k = w.heap.size + 1) X W) : RmS w g n cap q' fin fo A l fa V dl fd W :=
 { fr := h.fr.trans hF (fun k hk e => by omega), b0 := h.b0.fr hF (by omega), rd := hb, st := h.st.fr hF (by omega), ar := h.ar.fr hF (fun b hb e => by have := h.ao b hb; omega), ac := h.ac, ao := h.ao, dr := h.dr.fr hF (fun b hb e => by have := h.dd b hb; omega), dc := h.dc, dd := h.dd, ne := h.ne }
theorem RmS.drew (h : RmS w g n cap q fin fo A l fa V dl fd X) : RmS w g n cap q fin fo A l fa V dl fd X.drew :=
 { fr := h.fr.drew, b0 := h.b0.drew, rd := h.rd.drew, st := h.st.drew, ar := h.ar, ac := h.ac, ao := h.ao, dr := h.dr, dc := h.dc, dd := h.dd, ne := h.ne }
theorem RmS.setF (h : RmS w g n cap q fin fo A l fa V dl fd X) (fo' : Nat) : RmS w g n cap q fin fo' A l fa V dl fd (X.setCell ⟨w.heap.size + 2, 1, none⟩ (.int .u64 (fo' : Int))) := by
 have hF : Fr (fun k => k = w.heap.size + 2) X (X.setCell ⟨w.heap.size + 2, 1, none⟩ (.int .u64 (fo' : Int))) := Fr.setCell (F := fun k => k = w.heap.size + 2) (p := ⟨w.heap.size + 2, 1, none⟩) (Fr.refl _ X) (fun _ => rfl) _
 exact { fr := h.fr.trans hF (fun k hk e => by omega), b0 := h.b0.fr hF (by omega), rd := h.rd.fr hF (by omega), st := h.st.set 1 _, ar := h.ar.fr hF (fun b hb e => by have := h.ao b hb; omega), ac := h.ac, ao := h.ao, dr := h.dr.fr hF (fun b hb e => by have := h.dd b hb; omega), dc := h.dc, dd := h.dd, ne := h.ne }
/-- A field of a transition is stored. -/
theorem RmS.setA (h : RmS w g n cap q fin fo A l fa V dl fd X) {ga ca j : Nat} (hA : A = .slice (some ⟨ga, 0, none⟩) l.length ca) (u : Value) {l' : Arcs} (hl : l'.length = l.length) (hj : j < l.length * 3) (he : (acells l).set j u = acells l') : RmS w g n cap q fin fo A l' (fa.set j u) V dl fd (X.setCell ⟨ga, j, none⟩ u) := by
 have hga : A.ownBlock = some ga := by rw [hA]; rfl
 have hge := h.ao ga hga
 have hF : Fr (fun k => k = ga) X (X.setCell ⟨ga, j, none⟩ u) := Fr.setCell (F := fun k => k = ga) (p := ⟨ga, j, none⟩) (Fr.refl _ X) (fun _ => rfl) _
 refine { fr := h.fr.trans hF (fun k hk e => by omega), b0 := h.b0.fr hF (by omega), rd := h.rd.fr hF (by omega), st := h.st.fr hF (by omega), ar := ?_, ac := ?_, ao := h.ao, dr := h.dr.fr hF (fun b hb e => h.ne ga hga (by rw [← e]; exact hb)), dc := h.dc, dd := h.dd, ne := h.ne }
 ·rcases h.ar with ⟨e, _⟩ | ⟨g', cap', e, hb, h2, h3, h4⟩
  ·rw [hA] at e; cases e
  ·rw [hA] at e
   injection e with e1 e2 e3
   injection e1 with e1
   injection e1 with e1
   subst e1 e3
   rw [hl]
   exact .inr ⟨ga, ca, hA, hb.set j u, h2, h3, by rw [List.length_set]; exact h4⟩
 ·rw [hl, List.take_set, h.ac, he]
/-- A transition is appended. -/
theorem RmS.appA (h : RmS w g n cap q fin fo A l fa V dl fd X) {A' : Value} {fa' : List Value} (x : Nat × Nat × Nat) (hr : RowF W 98 3 A' (l.length + 1) fa') (hF : Fr (fun k => A.ownBlock = some k) X W)
  (hc : (A'.ownBlock = A.ownBlock ∧ fa' = fa.take (l.length * 3) ++ [.int .u8 (x.1 : Int), .int .u64 (x.2.1 : Int), .int .i64 (x.2.2 : Int)] ++ fa.drop ((l.length + 1) * 3)) ∨ ((∃ b', A'.ownBlock = some b' ∧ X.heap.size ≤ b') ∧ ∃ k, fa' = fa.take (l.length * 3) ++ [.int .u8 (x.1 : Int), .int .u64 (x.2.1 : Int), .int .i64 (x.2.2 : Int)] ++ zeros #[.int .u8 0, .int .u64 0, .int .i64 0] k)) :
  RmS w g n cap q fin fo A' (l ++ [x]) fa' V dl fd (W.setCell ⟨w.heap.size + 2, 2, none⟩ A') := by
 have hs : w.heap.size ≤ X.heap.size := h.fr.size
 have h2 := h.st.lt
 have hA : ∀ b, A.ownBlock = some b → w.heap.size + 3 ≤ b := h.ao
 have hA' : ∀ b, A'.ownBlock = some b → w.heap.size + 3 ≤ b := fun b hb => by
  rcases hc with ⟨e, _⟩ | ⟨⟨b', e, hb'⟩, _⟩
  ·rw [e] at hb; exact hA b hb
  ·rw [e] at hb; cases hb; omega
 have hS : Fr (fun k => k = w.heap.size + 2) W (W.setCell ⟨w.heap.size + 2, 2, none⟩ A') := Fr.setCell (F := fun k => k = w.heap.size + 2) (p := ⟨w.heap.size + 2, 2, none⟩) (Fr.refl _ W) (fun _ => rfl) _
 have key : ∀ T : List Value, (fa.take (l.length * 3) ++ ([.int .u8 (x.1 : Int), .int .u64 (x.2.1 : Int), .int .i64 (x.2.2 : Int)] : List Value) ++ T).take ((l.length + 1) * 3) = acells (l ++ [x]) := fun T => by
  rw [h.ac, acells_app, List.take_left' (by simp [acells_len]; omega)]; rfl
 refine { fr := (h.fr.trans hF (fun k hk e => by have := hA k e; omega)).trans hS (fun k hk e => by omega), b0 := (h.b0.fr hF (fun e => by have := hA _ e; omega)).fr hS (by omega), rd := (h.rd.fr hF (fun e => by have := hA _ e; omega)).fr hS (by omega), st := (h.st.fr hF (fun e => by have := hA _ e; omega)).set 2 _, ar := ?_, ac := ?_, ao := hA', dr := (h.dr.fr hF (fun b hb e => h.ne b e hb)).fr hS (fun b hb e => by have := h.dd b hb; omega), dc := h.dc, dd := h.dd, ne := fun b hb e => ?_ }
 ·rw [List.length_append]; exact hr.fr hS (fun b hb e => by have := hA' b hb; omega)
 ·rw [List.length_append]
  rcases hc with ⟨_, e⟩ | ⟨_, k, e⟩ <;> (rw [e]; exact key _)
 ·rcases hc with ⟨e', _⟩ | ⟨⟨b', e', hb'⟩, _⟩
  ·rw [e'] at hb; exact h.ne b hb e
  ·rw [e'] at hb; cases hb
   have := h.dr.lt e; omega
/-- A distance is appended. -/
theorem RmS.appD (h : RmS w g n cap q fin fo A l fa V dl fd X) {V' : Value} {fd' : List Value} (x : Nat) (hr : RowF W 40 1 V' (dl.length + 1) fd') (hF : Fr (fun k => V.ownBlock = some k) X W)
  (hc : (V'.ownBlock = V.ownBlock ∧ fd' = fd.take (dl.length * 1) ++ [.int .u64 (x : Int)] ++ fd.drop ((dl.length + 1) * 1)) ∨ ((∃ b', V'.ownBlock = some b' ∧ X.heap.size ≤ b') ∧ ∃ k, fd' = fd.take (dl.length * 1) ++ [.int .u64 (x : Int)] ++ zeros #[.int .u64 0] k)) :
  RmS w g n cap q fin fo A l fa V' (dl ++ [x]) fd' W := by
 have ha := AppF.of hc
 have hs : w.heap.size ≤ X.heap.size := h.fr.size
 have h2 := h.st.lt
 obtain ⟨A1, cp, e1, e2, e3, e4⟩ := h.dr.slc
 have hl : dl.length ≤ fd.length := by rw [e4]; omega
 have hV' : ∀ b, V'.ownBlock = some b → w.heap.size + 3 ≤ b := fun b hb => by
  rcases hc with ⟨e, _⟩ | ⟨⟨b', e, hb'⟩, _⟩
  ·rw [e] at hb; exact h.dd b hb
  ·rw [e] at hb; cases hb; omega
 refine { fr := h.fr.trans hF (fun k hk e => by have := h.dd k e; omega), b0 := h.b0.fr hF (fun e => by have := h.dd _ e; omega), rd := h.rd.fr hF (fun e => by have := h.dd _ e; omega), st := h.st.fr hF (fun e => by have := h.dd _ e; omega), ar := h.ar.fr hF (fun b hb e => h.ne b hb e), ac := h.ac, ao := h.ao, dr := by rw [List.length_append]; exact hr, dc := fun i y hi => ?_, dd := hV', ne := fun b hb e => ?_ }
 ·rcases Nat.lt_or_ge i dl.length with hlt | hge
  ·rw [List.getElem?_append_left hlt] at hi
   rw [ha.lt hl hlt]; exact h.dc i y hi
  ·rw [List.getElem?_append_right hge] at hi
   obtain rfl : i = dl.length := by have := (List.getElem?_eq_some_iff.1 hi).1; simp at this; omega
   simp at hi
   subst hi
   exact ha.at_ hl
 ·rcases hc with ⟨e', _⟩ | ⟨⟨b', e', hb'⟩, _⟩
  ·rw [e'] at e; exact h.ne b hb e
  ·rw [e'] at e; cases e
   have := h.ar.lt hb; omega
/-- The state is stored where it is given back. -/
theorem RmS.post (h : RmS w g n cap q fin fo A l fa V dl fd X) (fout : Nat) (hfo : fin = true → fo = fout) : ∀ W, W = (((X.setCell ⟨w.heap.size, 0, none⟩ (.bool fin)).setCell ⟨w.heap.size, 1, none⟩ (.int .u64 (fo : Int))).setCell ⟨w.heap.size, 2, none⟩ A).drew →
  Blk W w.heap.size [.bool fin, .int .u64 (fo : Int), A] 94 ∧ RdPost w ⟨fin, fout, l⟩ (.returned (.tuple #[.agg #[.bool fin, .int .u64 (fo : Int), A], .bool true])) W := by
 rintro W rfl
 have hF : Fr (fun k => k = w.heap.size) X (((X.setCell ⟨w.heap.size, 0, none⟩ (.bool fin)).setCell ⟨w.heap.size, 1, none⟩ (.int .u64 (fo : Int))).setCell ⟨w.heap.size, 2, none⟩ A).drew :=
  (Fr.setCell (F := fun k => k = w.heap.size) (p := ⟨w.heap.size, 2, none⟩) (Fr.setCell (F := fun k => k = w.heap.size) (p := ⟨w.heap.size, 1, none⟩) (Fr.setCell (F := fun k => k = w.heap.size) (p := ⟨w.heap.size, 0, none⟩) (Fr.refl _ X) (fun _ => rfl) _) (fun _ => rfl) _) (fun _ => rfl) _).drew
 exact ⟨(((h.b0.set 0 _).set 1 _).set 2 _), A, fa, fo, rfl, hfo, h.ar.fr hF (fun b hb e => by have := h.ao b hb; omega), h.ac, fun b hb => by have := h.ao b hb; omega, h.fr.trans hF (fun k hk e => by omega)⟩
theorem RmS.after (h : RmS w g n cap q fin fo A l fa V dl fd X) (v0 v1 v2 : Value) : (((X.setCell ⟨w.heap.size, 0, none⟩ v0).setCell ⟨w.heap.size, 1, none⟩ v1).setCell ⟨w.heap.size, 2, none⟩ v2).cell? ⟨w.heap.size + 2, 0, none⟩ = some (.bool fin) ∧ (((X.setCell ⟨w.heap.size, 0, none⟩ v0).setCell ⟨w.heap.size, 1, none⟩ v1).setCell ⟨w.heap.size, 2, none⟩ v2).cell? ⟨w.heap.size + 2, 1, none⟩ = some (.int .u64 (fo : Int)) ∧ (((X.setCell ⟨w.heap.size, 0, none⟩ v0).setCell ⟨w.heap.size, 1, none⟩ v1).setCell ⟨w.heap.size, 2, none⟩ v2).cell? ⟨w.heap.size + 2, 2, none⟩ = some A ∧ (((X.setCell ⟨w.heap.size, 0, none⟩ v0).setCell ⟨w.heap.size, 1, none⟩ v1).setCell ⟨w.heap.size, 2, none⟩ v2).cell? ⟨w.heap.size + 1, 2, none⟩ = some (.bool false) := by
 have e1 := ((h.st.set_ne (a := ⟨w.heap.size, 0, none⟩) (by simp only; omega) v0).set_ne (a := ⟨w.heap.size, 1, none⟩) (by simp only; omega) v1).set_ne (a := ⟨w.heap.size, 2, none⟩) (by simp only; omega) v2
 have e2 := ((h.rd.set_ne (a := ⟨w.heap.size, 0, none⟩) (by simp only; omega) v0).set_ne (a := ⟨w.heap.size, 1, none⟩) (by simp only; omega) v1).set_ne (a := ⟨w.heap.size, 2, none⟩) (by simp only; omega) v2
 exact ⟨e1.cell 0 rfl, e1.cell 1 rfl, e1.cell 2 rfl, e2.cell 2 rfl⟩
end
end
end Go.Proofs.YtmhlnijpimjjaaaGreatDoor
