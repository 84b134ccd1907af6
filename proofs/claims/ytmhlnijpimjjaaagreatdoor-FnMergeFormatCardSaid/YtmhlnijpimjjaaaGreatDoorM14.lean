/- The registry's hash of a node: some number below the table's size. No condition. Are two nodes equal: equiv. No condition. The registry's table in memory; swap and promote. No condition. The registry's entry: a found address, or a place for a new one. Condition: at most 256 transitions. The registry's entry, whole. Condition: at most 256 transitions. PutUint64 on a row of bytes. Condition: the eight places lie in the row. -/
import Derived.Test.YtmhlnijpimjjaaaGreatDoorM13
import Derived.Shelf.Bin.LEPutUint64
set_option linter.unusedSimpArgs false
set_option linter.unusedVariables false
namespace Go.Proofs.YtmhlnijpimjjaaaGreatDoor
section
open Go.RowKit Fmt
section
variable {w : World} {col : Col} {rb x : Nat} {nd : Nd} {tv : Value} {nx : Option Nat}
set_option maxHeartbeats 2000000 in
set_option maxRecDepth 100000 in
theorem hash_calls (hn : NodeC w col x nd tv nx) (hlen : nd.arcs.length ≤ 256) (hr : w.cell? ⟨rb, 2, none⟩ = some (.int .u64 10000)) :
  Calls Tryz.prog 89 #[.pointer (some ⟨rb, 0, none⟩), .pointer (some ⟨x, 0, none⟩)] w fun e w' => ∃ h : Nat, h < 10000 ∧ e = .returned (.int .i64 (h : Int)) ∧ Fr (fun _ => False) w w' := by
 obtain ⟨A, c, rfl, hc1, hc2⟩ := hn.slc
 have n2 := hn.blk.blk.cell 2 rfl
 have n0 := hn.blk.blk.cell 0 rfl
 have n1 := hn.blk.blk.cell 1 rfl
 have HN := Lib.hid hn
 have HR := Lib.hid hr
 obtain ⟨n, hnn⟩ : ∃ n, Hid (nd.arcs.length = n) := ⟨_, Lib.hid rfl⟩
 rw [hnn.out] at hlen hc1 n1
 clear hn
 go_enter Tryz.func89, Tryz.ntmps89
 go_upto_if 12 with fail
 go_cut [5] (fun u wx => ∃ z : Int, u = .int .u64 z ∧ w = wx)
 case first =>
  cases nd.fin with
  | true => go_wp2_with fail; go_meet; exact ⟨_, rfl, rfl⟩
  | false => go_wp2_with fail; go_meet; exact ⟨_, rfl, rfl⟩
 case rest =>
 obtain ⟨z0, rfl, rfl⟩ := hcut
 go_wp2_with fail
 clear n0 n1 n2 hr
 go_loopg [29, 6] (n + 1) (fun g i h wx => ∃ (j : Nat) (z : Int), j ≤ n ∧ g = n - j + 1 ∧ i = .int .i64 (j : Int) ∧ h = .int .u64 z ∧ Hid (0 ≤ z) ∧ Fr (fun _ => False) w wx)
 case atStart => exact ⟨0, _, by omega, by omega, rfl, rfl, Lib.hid (wrap_u64_nonneg _), Fr.refl _ _⟩
 case round =>
  obtain ⟨j, z, hj, rfl, rfl, rfl, hz, hF⟩ := hrel
  by_cases hjn : j < n
  ·have ej : (j : Int) < (n : Int) := by omega
   obtain ⟨t, ht⟩ : ∃ t, nd.arcs[j]? = some t := ⟨_, List.getElem?_eq_getElem (by rw [hnn.out]; exact hjn)⟩
   have hn' := HN.out.kp (Kp.news (col := col) hF 10 rfl) (by omega) (by omega)
   obtain ⟨g, c', hge, -, -, ca0, ca1, ca2, -⟩ := hn'.arc ht
   injection hge with hge hge2 hge3
   subst hge hge3
   clear hge2 hn'
   rw [Nat.mul_comm 3 j] at ca0 ca1 ca2
   have HF := Lib.hid hF
   have hze := hz.out
   clear hF
   go_wp2_with fail
   go_roundg (n - (j + 1) + 1)
   case measure => omega
   case rel =>
    refine ⟨j + 1, _, by omega, rfl, by simp, rfl, Lib.hid (wrap_u64_nonneg _), ?_⟩
    exact HF.out.alloc _
  ·obtain rfl : j = n := by omega
   have ej : ¬ (j : Int) < (j : Int) := by omega
   have hr' : wr.cell? ⟨rb, 2, none⟩ = some (.int .u64 10000) := hF.cell HR.out (fun e => e)
   have HF := Lib.hid hF
   obtain ⟨h, hh⟩ : ∃ h : Nat, z.tmod 10000 = (h : Int) := ⟨(z.tmod 10000).toNat, (Int.toNat_of_nonneg (Int.tmod_nonneg _ hz.out)).symm⟩
   have hlt : h < 10000 := by have := Int.tmod_lt_of_pos z (show (0 : Int) < 10000 by omega); omega
   have e7 : wrap64 (z.tmod 10000) = (h : Int) := by rw [hh]; exact IntWalk.wrap64_in _ (by omega)
   clear hF hh
   go_wp2_with fail
   go_ret
   exact ⟨h, hlt, rfl, HF.out⟩
end
end
section
open Go.RowKit Fmt
section
variable {w : World} {col : Col} {x y : Nat} {n1 n2 : Nd} {tv1 tv2 : Value} {nx1 nx2 : Option Nat}
theorem nd_ext {a b : Nd} (h1 : a.fin = b.fin) (h2 : a.fout = b.fout) (h3 : a.arcs = b.arcs) : a = b := by
 cases a; cases b; simp only at h1 h2 h3; subst h1 h2 h3; rfl
/-- What equiv says. -/
def EqPost (w : World) (n1 n2 : Nd) (e : Ending) (w' : World) : Prop := ∃ b : Bool, e = .returned (.bool b) ∧ (b = true → n1 = n2) ∧ Fr (fun _ => False) w w'
set_option maxHeartbeats 2000000 in
set_option maxRecDepth 100000 in
theorem equiv_calls (hx : NodeC w col x n1 tv1 nx1) (hy : NodeC w col y n2 tv2 nx2) (hl1 : n1.arcs.length ≤ 256) (hl2 : n2.arcs.length ≤ 256) :
  Calls Tryz.prog 93 #[.pointer (some ⟨x, 0, none⟩), .pointer (some ⟨y, 0, none⟩)] w (EqPost w n1 n2) := by
 obtain ⟨A1, c1, rfl, hc1, hcm1⟩ := hx.slc
 obtain ⟨A2, c2, rfl, hc2, hcm2⟩ := hy.slc
 have x2 := hx.blk.blk.cell 2 rfl
 have x0 := hx.blk.blk.cell 0 rfl
 have x1 := hx.blk.blk.cell 1 rfl
 have y2 := hy.blk.blk.cell 2 rfl
 have y0 := hy.blk.blk.cell 0 rfl
 have y1 := hy.blk.blk.cell 1 rfl
 have HN := Lib.hid (And.intro hx hy)
 obtain ⟨k1, hk1⟩ : ∃ n, Hid (n1.arcs.length = n) := ⟨_, Lib.hid rfl⟩
 obtain ⟨k2, hk2⟩ : ∃ n, Hid (n2.arcs.length = n) := ⟨_, Lib.hid rfl⟩
 obtain ⟨f1, hf1⟩ : ∃ n, Hid (n1.fin = n) := ⟨_, Lib.hid rfl⟩
 obtain ⟨f2, hf2⟩ : ∃ n, Hid (n2.fin = n) := ⟨_, Lib.hid rfl⟩
 obtain ⟨o1, ho1⟩ : ∃ n, Hid (n1.fout = n) := ⟨_, Lib.hid rfl⟩
 obtain ⟨o2, ho2⟩ : ∃ n, Hid (n2.fout = n) := ⟨_, Lib.hid rfl⟩
 rw [hk1.out] at hl1 hc1 x1
 rw [hk2.out] at hl2 hc2 y1
 rw [hf1.out] at x2
 rw [hf2.out] at y2
 rw [ho1.out] at x0
 rw [ho2.out] at y0
 clear hx hy
 have HF : Hid (∀ w', Fr (fun _ => False) w w' → Fr (fun _ => False) w w') := Lib.hid fun _ h => h
 go_enter Tryz.func93, Tryz.ntmps93
 go_wp2_with fail
 go_quiet (fail)

 have H1 : Hid (Fr (fun _ => False) w (w.drewN nq)) := Lib.hid ((Fr.refl _ w).drewN nq)
 replace x0 : (w.drewN nq).cell? ⟨x, 0, none⟩ = some (.int .u64 (o1 : Int)) := x0
 replace y0 : (w.drewN nq).cell? ⟨y, 0, none⟩ = some (.int .u64 (o2 : Int)) := y0
 replace x1 : (w.drewN nq).cell? ⟨x, 1, none⟩ = some (.slice A1 k1 c1) := x1
 replace y1 : (w.drewN nq).cell? ⟨y, 1, none⟩ = some (.slice A2 k2 c2) := y1
 generalize w.drewN nq = wa at *
 clear x2 y2
 by_cases hf : f1 = f2
 ·subst hf
  as_aux_lemma =>
  rw [show (!(f1 == f1)) = false by cases f1 <;> rfl]
  go_wp2_with fail
  go_quiet (fail)
  have H2 : Hid (Fr (fun _ => False) w (wa.drewN nq)) := Lib.hid (H1.out.drewN nq)
  replace x1 : (wa.drewN nq).cell? ⟨x, 1, none⟩ = some (.slice A1 k1 c1) := x1
  replace y1 : (wa.drewN nq).cell? ⟨y, 1, none⟩ = some (.slice A2 k2 c2) := y1
  clear H1 x0 y0
  generalize wa.drewN nq = wb at *
  by_cases ho : o1 = o2
  ·subst ho
   as_aux_lemma =>
   rw [show ((o1 : Int) != (o1 : Int)) = false by simp]
   go_wp2_with fail
   go_quiet (fail)
   have H3 : Hid (Fr (fun _ => False) w (wb.drewN nq)) := Lib.hid (H2.out.drewN nq)
   replace x1 : (wb.drewN nq).cell? ⟨x, 1, none⟩ = some (.slice A1 k1 c1) := x1
   clear H2 y1
   generalize wb.drewN nq = wd at *
   by_cases hk : k1 = k2
   ·subst hk
    as_aux_lemma =>
    rw [show ((k1 : Int) != (k1 : Int)) = false by simp]
    go_wp2_with fail
    clear x1
    go_loopg [42] (k1 + 1) (fun g i wx => ∃ j : Nat, j ≤ k1 ∧ g = k1 - j + 1 ∧ i = .int .i64 (j : Int) ∧ Fr (fun _ => False) w wx ∧ n1.arcs.take j = n2.arcs.take j)
    case atStart => exact ⟨0, by omega, by omega, rfl, H3.out, by simp⟩
    case round =>
     obtain ⟨j, hj, rfl, rfl, hF, htk⟩ := hrel
     by_cases hjn : j < k1
     ·have ej : (j : Int) < (k1 : Int) := by omega
      obtain ⟨t, ht⟩ : ∃ t, n1.arcs[j]? = some t := ⟨_, List.getElem?_eq_getElem (by rw [hk1.out]; exact hjn)⟩
      obtain ⟨s, hs⟩ : ∃ s, n2.arcs[j]? = some s := ⟨_, List.getElem?_eq_getElem (by rw [hk2.out]; exact hjn)⟩
      have hx' := HN.out.1.kp (Kp.news (col := col) hF 10 rfl) (by omega) (by omega)
      have hy' := HN.out.2.kp (Kp.news (col := col) hF 10 rfl) (by omega) (by omega)
      have y1 := hy'.blk.blk.cell 1 rfl
      rw [hk2.out] at y1
      obtain ⟨g, c', hge, -, -, ca0, ca1, ca2, -⟩ := hx'.arc ht
      injection hge with hge hge2 hge3
      subst hge hge3
      clear hge2 hx'
      obtain ⟨g2, c2', hge, -, -, cb0, cb1, cb2, -⟩ := hy'.arc hs
      injection hge with hge hge2 hge3
      subst hge hge3
      clear hge2 hy'
      rw [Nat.mul_comm 3 j] at ca0 ca1 ca2 cb0 cb1 cb2
      have HE := Lib.hid (And.intro hF (And.intro ht (And.intro hs htk)))
      clear hF ht hs htk
      obtain ⟨⟨ta, tb, tc⟩, rfl⟩ : ∃ q, q = t := ⟨_, rfl⟩
      obtain ⟨⟨sa, sb, sc⟩, rfl⟩ : ∃ q, q = s := ⟨_, rfl⟩
      simp only at ca0 ca1 ca2 cb0 cb1 cb2
      have hA : Fr (fun _ => False) wr (wr.alloc (.cells #[.int .u64 (tb : Int), .int .i64 (tc : Int), .int .u8 (ta : Int)] 196)) := (Fr.refl _ wr).alloc _
      have d1 := hA.cell y1 (fun e => e)
      have d2 := hA.cell cb0 (fun e => e)
      have d3 := hA.cell cb1 (fun e => e)
      have d4 := hA.cell cb2 (fun e => e)
      clear hA
      by_cases e1 : ta = sa
      ·by_cases e2 : tc = sc
       ·by_cases e3 : tb = sb
        ·subst e1 e2 e3
         as_aux_lemma =>
         go_wp2_with fail
         go_roundg (k1 - (j + 1) + 1)
         case measure => omega
         case rel =>
          obtain ⟨hF, ht, hs, htk⟩ := HE.out
          exact ⟨j + 1, by omega, rfl, by simp, (hF.alloc _).alloc _, by rw [List.take_add_one, List.take_add_one, ht, hs, htk]⟩
        ·subst e1 e2
         as_aux_lemma =>
         have e4 : ¬ ((tb : Int) = (sb : Int)) := by omega
         go_wp2_with fail
         go_ret
         exact ⟨false, rfl, fun h => (by cases h), (HE.out.1.alloc _).alloc _⟩
       ·subst e1
        as_aux_lemma =>
        have e4 : ¬ ((tc : Int) = (sc : Int)) := by omega
        go_wp2_with fail
        go_ret
        exact ⟨false, rfl, fun h => (by cases h), (HE.out.1.alloc _).alloc _⟩
      ·as_aux_lemma =>
       have e4 : ¬ ((ta : Int) = (sa : Int)) := by omega
       go_wp2_with fail
       go_ret
       exact ⟨false, rfl, fun h => (by cases h), (HE.out.1.alloc _).alloc _⟩
     ·as_aux_lemma =>
      obtain rfl : j = k1 := by omega
      have ej : ¬ (j : Int) < (j : Int) := by omega
      have HE := Lib.hid (And.intro hF htk)
      clear hF htk
      go_wp2_with fail
      go_ret
      obtain ⟨hF, htk⟩ := HE.out
      refine ⟨true, rfl, fun _ => nd_ext (hf1.out.trans hf2.out.symm) (ho1.out.trans ho2.out.symm) ?_, hF⟩
      have a1 : n1.arcs.take j = n1.arcs := by rw [← hk1.out, List.take_length]
      have a2 : n2.arcs.take j = n2.arcs := by rw [← hk2.out, List.take_length]
      rw [a1, a2] at htk; exact htk
   ·as_aux_lemma =>
    rw [show ((k1 : Int) != (k2 : Int)) = true by simp; omega]
    go_wp2_with fail
    go_ret
    exact ⟨false, rfl, fun h => (by cases h), H3.out⟩
  ·as_aux_lemma =>
   rw [show ((o1 : Int) != (o2 : Int)) = true by simp; omega]
   go_wp2_with fail
   go_ret
   exact ⟨false, rfl, fun h => (by cases h), H2.out⟩
 ·as_aux_lemma =>
  cases f1 <;> cases f2 <;> first | exact absurd rfl hf | (
   go_wp2_with fail
   go_ret
   exact ⟨false, rfl, fun h => (by cases h), H1.out⟩)
end
end
section
open Go.RowKit Fmt
/-- A row of two-cell parts. -/
def rng2 (f : Nat → List Value) (n : Nat) : List Value := (List.range n).flatMap f
theorem rng2_succ (f : Nat → List Value) (n : Nat) : rng2 f (n + 1) = rng2 f n ++ f n := by
 unfold rng2; rw [List.range_succ]; simp
theorem rng2_len {f : Nat → List Value} (hf : ∀ i, (f i).length = 2) : ∀ n, (rng2 f n).length = n * 2
 | 0 => rfl
 | n + 1 => by rw [rng2_succ, List.length_append, rng2_len hf n, hf]; omega
theorem rng2_at {f : Nat → List Value} (hf : ∀ i, (f i).length = 2) : ∀ {n i j : Nat}, i < n → j < 2 → (rng2 f n)[i * 2 + j]? = (f i)[j]?
 | 0, i, j, h, _ => absurd h (by omega)
 | n + 1, i, j, h, hj => by
  rw [rng2_succ]
  by_cases e : i = n
  ·subst e
   rw [List.getElem?_append_right (by rw [rng2_len hf]; omega), rng2_len hf]
   congr 1; omega
  ·rw [List.getElem?_append_left (by rw [rng2_len hf]; omega)]
   exact rng2_at hf (by omega) hj
theorem rng2_congr {f g : Nat → List Value} : ∀ {n : Nat}, (∀ i, i < n → f i = g i) → rng2 f n = rng2 g n
 | 0, _ => rfl
 | n + 1, h => by rw [rng2_succ, rng2_succ, rng2_congr (fun i hi => h i (by omega)), h n (by omega)]
theorem rng2_set {f : Nat → List Value} (hf : ∀ i, (f i).length = 2) (v : Value) : ∀ {n i j : Nat}, i < n → j < 2 → (rng2 f n).set (i * 2 + j) v = rng2 (upd f i ((f i).set j v)) n
 | 0, i, j, h, _ => absurd h (by omega)
 | n + 1, i, j, h, hj => by
  rw [rng2_succ, rng2_succ]
  by_cases e : i = n
  ·subst e
   rw [List.set_append_right _ _ (by rw [rng2_len hf]; omega), rng2_len hf, upd_at, show i * 2 + j - i * 2 = j by omega]
   congr 1
   exact rng2_congr fun k hk => (upd_ne _ _ (by omega)).symm
  ·rw [List.set_append_left _ _ (by rw [rng2_len hf]; omega), rng2_set hf v (by omega) hj, upd_ne _ _ (fun e2 => e e2.symm)]
/-- A cell of the table: an address and a node. -/
def tcell (q : Nat × Option Nat) : List Value := [.int .i64 (q.1 : Int), ptrN q.2]
structure Rg (w : World) (col : Col) (rb tb pb : Nat) (tab : Nat → Nat × Option Nat) : Prop where
 blk : BlkC w col 8 rb [.pointer (some ⟨pb, 0, none⟩), .slice (some ⟨tb, 0, none⟩) 20000 20000, .int .u64 10000, .int .u64 2] 192
 tb : BlkC w col 8 tb (rng2 (fun i => tcell (tab i)) 20000) 174
/-- What the table says: nodes that are held, with the addresses of equal states. -/
structure RgI (tab : Nat → Nat × Option Nat) (K R : List (Nat × Nd)) : Prop where
 held : ∀ i a x, i < 20000 → tab i = (a, some x) → ∃ n, (x, n) ∈ K ∧ (a, n) ∈ R
 inj : ∀ i j x, i < 20000 → j < 20000 → (tab i).2 = some x → (tab j).2 = some x → i = j
/-- Two places of the table change places. -/
def swp (tab : Nat → Nat × Option Nat) (k : Nat) : Nat → Nat × Option Nat := upd (upd tab k (tab (k + 1))) (k + 1) (tab k)
section
variable {w w' : World} {col col' : Col} {C : Nat → Prop} {rb tb pb k : Nat} {tab : Nat → Nat × Option Nat} {K R : List (Nat × Nd)}
theorem Rg.kp (h : Rg w col rb tb pb tab) (q : Kp C col w col' w') (h8 : ¬ C 8) : Rg w' col' rb tb pb tab := ⟨h.blk.kp q h8, h.tb.kp q h8⟩
theorem Rg.cell (h : Rg w col rb tb pb tab) (hk : k < 20000) : (w.cell? ⟨tb, k * 2, none⟩ = some (.int .i64 ((tab k).1 : Int)) ∧ w.cell? ⟨tb, k * 2 + 1, none⟩ = some (ptrN (tab k).2)) ∧ ∀ j, w.frozen? ⟨tb, j, none⟩ = false :=
 ⟨⟨h.tb.blk.cell _ (by have := rng2_at (f := fun i => tcell (tab i)) (fun _ => rfl) hk (j := 0) (by omega); rw [Nat.add_zero] at this; rw [this]; rfl), h.tb.blk.cell _ (by have := rng2_at (f := fun i => tcell (tab i)) (fun _ => rfl) hk (j := 1) (by omega); rw [this]; rfl)⟩, fun j => h.tb.blk.frz j⟩
/-- A cell of the table is written. -/
theorem Rg.set (h : Rg w col rb tb pb tab) (hk : k < 20000) {j : Nat} {v : Value} {q : Nat × Option Nat} (hj : j < 2) (hq : tcell q = (tcell (tab k)).set j v) :
  Rg (w.setCell ⟨tb, k * 2 + j, none⟩ v) col rb tb pb (upd tab k q) ∧ Kp (fun d => d = 8) col w col (w.setCell ⟨tb, k * 2 + j, none⟩ v) := by
 refine ⟨⟨⟨h.blk.blk.set_ne (blk_ne h.blk.blk h.tb.blk (by decide)) v, h.blk.col⟩, ⟨?_, h.tb.col⟩⟩, (Kp.refl _ col w).set _ h.tb.col⟩
 have := h.tb.blk.set (k * 2 + j) v
 rw [rng2_set (fun _ => rfl) v hk hj] at this
 have e : rng2 (fun i => tcell (upd tab k q i)) 20000 = rng2 (upd (fun i => tcell (tab i)) k ((tcell (tab k)).set j v)) 20000 := rng2_congr fun i _ => by
  by_cases e : i = k
  ·subst e; rw [upd_at, upd_at, hq]
  ·rw [upd_ne _ _ e, upd_ne _ _ e]
 rw [e]; exact this
theorem swp_at0 (tab : Nat → Nat × Option Nat) (k : Nat) : swp tab k k = tab (k + 1) := by unfold swp; rw [upd_ne _ _ (by omega), upd_at]
theorem swp_at1 (tab : Nat → Nat × Option Nat) (k : Nat) : swp tab k (k + 1) = tab k := by unfold swp; rw [upd_at]
theorem swp_ne {i : Nat} (tab : Nat → Nat × Option Nat) (h0 : i ≠ k) (h1 : i ≠ k + 1) : swp tab k i = tab i := by unfold swp; rw [upd_ne _ _ h1, upd_ne _ _ h0]
/-- Where an entry was ahead of the change. -/
theorem swp_from (tab : Nat → Nat × Option Nat) (hk : k + 1 < 20000) {i : Nat} (hi : i < 20000) : ∃ j, j < 20000 ∧ swp tab k i = tab j ∧ (j = if i = k then k + 1 else if i = k + 1 then k else i) := by
 by_cases h0 : i = k
 ·subst h0; exact ⟨i + 1, hk, swp_at0 _ _, by simp⟩
 ·by_cases h1 : i = k + 1
  ·subst h1; exact ⟨k, by omega, swp_at1 _ _, by simp⟩
  ·exact ⟨i, hi, swp_ne _ h0 h1, by simp [h0, h1]⟩
theorem RgI.swapped (h : RgI tab K R) (hk : k + 1 < 20000) : RgI (swp tab k) K R := by
 refine ⟨fun i a x hi e => ?_, fun i j x hi hj e1 e2 => ?_⟩
 ·obtain ⟨i', h1, h2, -⟩ := swp_from tab hk hi
  rw [h2] at e; exact h.held i' a x h1 e
 ·obtain ⟨i', h1, h2, h3⟩ := swp_from tab hk hi
  obtain ⟨j', h4, h5, h6⟩ := swp_from tab hk hj
  rw [h2] at e1; rw [h5] at e2
  have := h.inj i' j' x h1 h4 e1 e2
  rw [this] at h3
  rw [h3] at h6
  split at h6 <;> split at h6 <;> (try split at h6) <;> (try split at h6) <;> omega
theorem ptrN_eq (o : Option Nat) : ∃ p, ptrN o = .pointer p := ⟨_, rfl⟩
/-- The world behind swap. -/
theorem Rg.swap (h : Rg w col rb tb pb tab) (hk : k + 1 < 20000) :
  Rg ((((w.setCell ⟨tb, k * 2, none⟩ (.int .i64 ((tab (k + 1)).1 : Int))).setCell ⟨tb, k * 2 + 1, none⟩ (ptrN (tab (k + 1)).2)).setCell ⟨tb, k * 2 + 2, none⟩ (.int .i64 ((tab k).1 : Int))).setCell ⟨tb, k * 2 + 3, none⟩ (ptrN (tab k).2)) col rb tb pb (swp tab k) ∧
  Kp (fun d => d = 8) col w col ((((w.setCell ⟨tb, k * 2, none⟩ (.int .i64 ((tab (k + 1)).1 : Int))).setCell ⟨tb, k * 2 + 1, none⟩ (ptrN (tab (k + 1)).2)).setCell ⟨tb, k * 2 + 2, none⟩ (.int .i64 ((tab k).1 : Int))).setCell ⟨tb, k * 2 + 3, none⟩ (ptrN (tab k).2)) := by
 obtain ⟨r1, k1⟩ := h.set (k := k) (by omega) (j := 0) (v := .int .i64 ((tab (k + 1)).1 : Int)) (q := ((tab (k + 1)).1, (tab k).2)) (by omega) rfl
 obtain ⟨r2, k2⟩ := r1.set (k := k) (by omega) (j := 1) (v := ptrN (tab (k + 1)).2) (q := tab (k + 1)) (by omega) (by rw [upd_at]; rfl)
 obtain ⟨r3, k3⟩ := r2.set (k := k + 1) hk (j := 0) (v := .int .i64 ((tab k).1 : Int)) (q := ((tab k).1, (tab (k + 1)).2)) (by omega) (by rw [upd_ne _ _ (by omega), upd_ne _ _ (by omega)]; rfl)
 obtain ⟨r4, k4⟩ := r3.set (k := k + 1) hk (j := 1) (v := ptrN (tab k).2) (q := tab k) (by omega) (by rw [upd_at]; rfl)
 rw [Nat.add_zero] at r1 k1 r2 k2 r3 k3 r4 k4
 rw [show (k + 1) * 2 + 0 = k * 2 + 2 by omega] at r3 k3 r4 k4
 rw [show (k + 1) * 2 + 1 = k * 2 + 3 by omega] at r4 k4
 refine ⟨?_, ((k1.trans k2).trans k3).trans k4⟩
 have e : upd (upd (upd (upd tab k ((tab (k + 1)).1, (tab k).2)) k (tab (k + 1))) (k + 1) ((tab k).1, (tab (k + 1)).2)) (k + 1) (tab k) = swp tab k := by
  rw [upd_upd, upd_upd]; rfl
 rw [← e]; exact r4
set_option maxHeartbeats 1000000 in
set_option maxRecDepth 100000 in
theorem swap_calls (h : Rg w col rb tb pb tab) (hk : k + 1 < 20000) (c : Nat) :
  Calls Tryz.prog 98 #[.slice (some ⟨tb, k * 2, none⟩) 2 c, .int .i64 0, .int .i64 1] w fun e w' => e = .returned (.tuple #[]) ∧ Rg w' col rb tb pb (swp tab k) ∧ Kp (fun d => d = 8) col w col w' := by
 obtain ⟨⟨c0, c1⟩, hz⟩ := h.cell (k := k) (by omega)
 obtain ⟨⟨c2, c3⟩, -⟩ := h.cell (k := k + 1) hk
 rw [show (k + 1) * 2 = k * 2 + 2 by omega] at c2 c3
 have hs := h.swap hk
 have z0 := hz (k * 2)
 have z1 := hz (k * 2 + 1)
 have z2 := hz (k * 2 + 2)
 have z3 := hz (k * 2 + 3)
 obtain ⟨p0, hp0⟩ : ∃ p, Hid (ptrN (tab k).2 = .pointer p) := ⟨_, Lib.hid rfl⟩
 obtain ⟨p1, hp1⟩ : ∃ p, Hid (ptrN (tab (k + 1)).2 = .pointer p) := ⟨_, Lib.hid rfl⟩
 rw [hp0.out] at c1 hs
 rw [hp1.out] at c3 hs
 obtain ⟨a0, ha0⟩ : ∃ p, Hid ((tab k).1 = p) := ⟨_, Lib.hid rfl⟩
 obtain ⟨a1, ha1⟩ : ∃ p, Hid ((tab (k + 1)).1 = p) := ⟨_, Lib.hid rfl⟩
 rw [ha0.out] at c0 hs
 rw [ha1.out] at c2 hs
 have HE := Lib.hid hs
 clear hs h hz
 generalize k * 2 = o at *
 have n2 : ∀ v1 v2 : Value, ((w.setCell ⟨tb, o, none⟩ v1).setCell ⟨tb, o + 1, none⟩ v2).cell? ⟨tb, o + 2, none⟩ = some (.int .i64 (a1 : Int)) := fun v1 v2 => by
  rw [World.cell?_setCell_other _ _ _ _ (fun e => by injection e with _ e _; omega), World.cell?_setCell_other _ _ _ _ (fun e => by injection e with _ e _; omega)]; exact c2
 have n3 : ∀ v1 v2 v3 : Value, (((w.setCell ⟨tb, o, none⟩ v1).setCell ⟨tb, o + 1, none⟩ v2).setCell ⟨tb, o + 2, none⟩ v3).cell? ⟨tb, o + 3, none⟩ = some (.pointer p1) := fun v1 v2 v3 => by
  rw [World.cell?_setCell_other _ _ _ _ (fun e => by injection e with _ e _; omega), World.cell?_setCell_other _ _ _ _ (fun e => by injection e with _ e _; omega), World.cell?_setCell_other _ _ _ _ (fun e => by injection e with _ e _; omega)]; exact c3
 go_enter Tryz.func98, Tryz.ntmps98
 refine wp_region_seqV (fun W => W.cell? ⟨tb, o, none⟩ = some (.int .i64 (a0 : Int)) ∧ W.cell? ⟨tb, o + 1, none⟩ = some (.pointer p0) ∧ W.cell? ⟨tb, o + 2, none⟩ = some (.int .i64 (a1 : Int)) ∧ W.cell? ⟨tb, o + 3, none⟩ = some (.pointer p1)) (fun i => decide (i ≠ 13 ∧ i ≠ 15)) (fun i => ![7, 11].contains i && decide (i ≠ 13 ∧ i ≠ 15)) (fun i => decide (i = 13 ∨ i = 15)) [0, 1, 2, 3, 4, 5, 6, 7, 8, 9, 10, 11, 12, 13, 14, 15] (by kernel_rfl) (by kernel_rfl) (fun c a d v w h => by cases d <;> exact h) ⟨c0, c1, c2, c3⟩ ?_
 iterate 3 (apply seqV_pure (ho := rfl) (hr := rfl) (hg := rfl); (intro w'; go_simp; rfl))
 go_simp
 iterate 3 (apply seqV_pure (ho := rfl) (hr := rfl) (hg := rfl); (intro w'; go_simp; rfl))
 go_simp
 iterate 1 (apply seqV_pure (ho := rfl) (hr := rfl) (hg := rfl); (intro w'; go_simp; rfl))
 (apply seqV_read (ho := rfl) (hr := rfl) (hp := rfl) (hg := rfl); (rintro w' ⟨q0, q1, q2, q3⟩; go_simp; rfl))
 go_simp
 iterate 3 (apply seqV_pure (ho := rfl) (hr := rfl) (hg := rfl); (intro w'; go_simp; rfl))
 (apply seqV_read (ho := rfl) (hr := rfl) (hp := rfl) (hg := rfl); (rintro w' ⟨q0, q1, q2, q3⟩; go_simp; rfl))
 go_simp
 iterate 1 (apply seqV_pure (ho := rfl) (hr := rfl) (hg := rfl); (intro w'; go_simp; rfl))
 refine seqV_do rfl rfl fun K hK => ?_
 go_simp
 refine hK _ _ (fun h => by cases h) ?_
 clear hK K
 go_simp
 iterate 1 (apply seqV_pure (ho := rfl) (hr := rfl) (hg := rfl); (intro w'; go_simp; rfl))
 refine seqV_do rfl rfl fun K hK => ?_
 go_simp
 refine hK _ _ (fun h => by cases h) ?_
 clear hK K
 unfold seqV
 go_simp
 go_wp2_with fail
 go_end0
 obtain ⟨h1, h2⟩ := HE.out
 exact ⟨rfl, h1.kp kdrew (fun e => e), h2.drew⟩
set_option maxHeartbeats 1000000 in
set_option maxRecDepth 100000 in
theorem promote0 (w : World) (v : Value) : Calls Tryz.prog 95 #[v, .int .i64 0] w fun e w' => e = .returned (.tuple #[]) ∧ w' = w := by
 go_enter Tryz.func95, Tryz.ntmps95
 go_wp2_with fail
 go_loopg [1] 1 (fun g i wx => g = 1 ∧ i = .int .i64 0 ∧ wx = w)
 case atStart => exact ⟨rfl, rfl, rfl⟩
 case round =>
  obtain ⟨rfl, rfl, rfl⟩ := hrel
  go_wp2_with fail
  go_end0
  exact ⟨rfl, rfl⟩
set_option maxHeartbeats 1000000 in
set_option maxRecDepth 100000 in
theorem promote1 (h : Rg w col rb tb pb tab) (hk : k + 1 < 20000) (c : Nat) :
  Calls Tryz.prog 95 #[.slice (some ⟨tb, k * 2, none⟩) 2 c, .int .i64 1] w fun e w' => e = .returned (.tuple #[]) ∧ Rg w' col rb tb pb (swp tab k) ∧ Kp (fun d => d = 8) col w col w' := by
 have hs := swap_calls h hk c
 clear h
 go_enter Tryz.func95, Tryz.ntmps95
 go_wp2_with fail
 go_loopg [1] 2 (fun g i wx => (g = 2 ∧ i = .int .i64 1 ∧ wx = w) ∨ (g = 1 ∧ i = .int .i64 0 ∧ Rg wx col rb tb pb (swp tab k) ∧ Kp (fun d => d = 8) col w col wx))
 case atStart => exact .inl ⟨rfl, rfl, rfl⟩
 case round =>
  rcases hrel with ⟨rfl, rfl, rfl⟩ | ⟨rfl, rfl, h1, h2⟩
  ·go_wp2_with fail
   refine hs.mono ?_
   rintro e w2 ⟨rfl, h1, h2⟩
   have HE := Lib.hid (And.intro h1 h2)
   clear h1 h2
   go_wp2_with fail
   go_roundg 1
   case measure => omega
   case rel => exact .inr ⟨rfl, rfl, HE.out⟩
  ·have HE := Lib.hid (And.intro h1 h2)
   clear h1 h2 hs
   go_wp2_with fail
   go_end0
   exact ⟨rfl, HE.out⟩
end
end
section
open Go.RowKit Fmt
section
variable {w : World} {col : Col} {ub cb pb rb tb k x : Nat} {K R : List (Nat × Nd)} {st : List Un} {n : Nd} {tab : Nat → Nat × Option Nat}
set_option maxRecDepth 100000 in
theorem put_nil (w : World) (v : Value) : Calls Tryz.prog 94 #[v, .pointer none] w fun e w' => e = .returned (.tuple #[]) ∧ w' = w := by
 go_enter Tryz.func94, Tryz.ntmps94
 go_wp2_with fail
 refine bodyPost_ret (results_none rfl _ _ _) rfl ?_
 exact ⟨rfl, rfl⟩
theorem Cr.put {y : Nat} {m : Nd} (h : Cr w col ub cb pb ((y, m) :: K) st) :
  Calls Tryz.prog 94 #[.pointer (some ⟨pb, 0, none⟩), .pointer (some ⟨y, 0, none⟩)] w fun e w' => e = .returned (.tuple #[]) ∧ Cr w' col ub cb pb K st ∧ Kp npc col w col w' := by
 obtain ⟨sv, full, bs, vs, xs, PL, L, nd, tv, nx, h⟩ := h
 have hyp : y ∉ PL := by
  have h1 := (List.nodup_append.1 (List.nodup_append.1 h.nodup).2.1).2.2
  intro e; exact h1 y e y (by simp) rfl
 refine (put_calls h.nds h.pool h.memL hyp).mono ?_
 rintro e w' ⟨rfl, tv', hN, hP, hk⟩
 exact ⟨rfl, ⟨_, _, _, _, _, _, _, _, _, _, h.free hN hP hk⟩, hk⟩
/-- The registry's colours and the core's. -/
def rgc : Nat → Prop := fun d => crc d ∨ d = 8 ∨ d = 10
/-- What entry yields. -/
def EntPost (w : World) (col : Col) (ub cb pb rb tb k x : Nat) (K R : List (Nat × Nd)) (st : List Un) (n : Nd) (e : Ending) (w' : World) : Prop :=
 (∃ (a : Nat) (tab' : Nat → Nat × Option Nat) (col' : Col), e = .returned (.tuple #[.bool true, .int .i64 (a : Int), .pointer none]) ∧ (a, n) ∈ R ∧ Cr w' col' ub cb pb ((x, n) :: K) st ∧ Rg w' col' rb tb pb tab' ∧ RgI tab' K R ∧ Kp rgc col w col' w') ∨
 (∃ (tab' : Nat → Nat × Option Nat) (K' : List (Nat × Nd)) (col' : Col) (a0 : Nat), e = .returned (.tuple #[.bool false, .int .i64 0, .pointer (some ⟨tb, k * 2, none⟩)]) ∧ Cr w' col' ub cb pb ((x, n) :: K') st ∧ (∀ q, q ∈ K' → q ∈ K) ∧ Rg w' col' rb tb pb tab' ∧ tab' k = (a0, some x) ∧ (∀ addr, RgI (upd tab' k (addr, some x)) ((x, n) :: K') ((addr, n) :: R)) ∧ Kp rgc col w col' w')
theorem RgI.new {K' : List (Nat × Nd)} (h : RgI tab K R) (hk : k + 1 < 20000) (hx : x ∉ K.map Prod.fst) {a1 : Nat} (hK : ∀ q, q ∈ K → (tab (k + 1)).2 ≠ some q.1 → q ∈ K') (addr : Nat) :
  RgI (upd (swp (upd tab (k + 1) (a1, some x)) k) k (addr, some x)) ((x, n) :: K') ((addr, n) :: R) := by
 have hat : ∀ i, i < 20000 → i ≠ k → ∃ i', i' < 20000 ∧ i' ≠ k + 1 ∧ upd (swp (upd tab (k + 1) (a1, some x)) k) k (addr, some x) i = tab i' ∧ i' = if i = k + 1 then k else i := fun i hi hne => by
  rw [upd_ne _ _ hne]
  by_cases e : i = k + 1
  ·subst e
   exact ⟨k, by omega, by omega, by rw [swp_at1, upd_ne _ _ (by omega)], by simp⟩
  ·exact ⟨i, hi, e, by rw [swp_ne _ hne e, upd_ne _ _ e], by simp [e]⟩
 have hxn : ∀ i, i < 20000 → (tab i).2 ≠ some x := fun i hi e => by
  obtain ⟨m, h1, -⟩ := h.held i (tab i).1 x hi (by rw [← e])
  exact hx (List.mem_map.2 ⟨_, h1, rfl⟩)
 refine ⟨fun i a z hi e => ?_, fun i j z hi hj e1 e2 => ?_⟩
 ·by_cases hik : i = k
  ·subst hik
   rw [upd_at] at e
   simp only [Prod.mk.injEq, Option.some.injEq] at e
   obtain ⟨rfl, rfl⟩ := e
   exact ⟨n, by simp, by simp⟩
  ·obtain ⟨i', h1, h2, h3, -⟩ := hat i hi hik
   rw [h3] at e
   obtain ⟨m, h4, h5⟩ := h.held i' a z h1 e
   refine ⟨m, List.mem_cons_of_mem _ (hK _ h4 fun e2 => h2 (h.inj i' (k + 1) z h1 hk (by rw [e]) e2)), List.mem_cons_of_mem _ h5⟩
 ·by_cases hik : i = k
  ·by_cases hjk : j = k
   ·omega
   ·subst hik
    rw [upd_at] at e1
    simp only [Option.some.injEq] at e1
    subst e1
    obtain ⟨j', h1, h2, h3, -⟩ := hat j hj hjk
    rw [h3] at e2
    exact absurd e2 (hxn j' h1)
  ·obtain ⟨i', h1, h2, h3, h4⟩ := hat i hi hik
   rw [h3] at e1
   by_cases hjk : j = k
   ·subst hjk
    rw [upd_at] at e2
    simp only [Option.some.injEq] at e2
    subst e2
    exact absurd e1 (hxn i' h1)
   ·obtain ⟨j', g1, g2, g3, g4⟩ := hat j hj hjk
    rw [g3] at e2
    have := h.inj i' j' z h1 g1 e1 e2
    rw [h4, g4] at this
    split at this <;> split at this <;> omega
theorem Cr.notin (h : Cr w col ub cb pb ((x, n) :: K) st) : x ∉ K.map Prod.fst := (List.nodup_cons.1 h.knodup).1
theorem kpr10 {w w' : World} {col col' : Col} (h : Kp (fun d => d = 10) col w col' w') : Kp rgc col w col' w' := h.mono fun _ e => .inr (.inr e)
theorem kpr8 {w w' : World} {col col' : Col} (h : Kp (fun d => d = 8) col w col' w') : Kp rgc col w col' w' := h.mono fun _ e => .inr (.inl e)
theorem kprc {w w' : World} {col col' : Col} (h : Kp crc col w col' w') : Kp rgc col w col' w' := h.mono fun _ e => .inl e
/-- The last two steps of a new entry: the node's place is written, the two change places. -/
theorem Rg.fresh (h : Rg w col rb tb pb tab) (hk : k + 1 < 20000) (x : Nat) : Rg (w.setCell ⟨tb, k * 2 + 3, none⟩ (.pointer (some ⟨x, 0, none⟩))) col rb tb pb (upd tab (k + 1) ((tab (k + 1)).1, some x)) ∧ Kp (fun d => d = 8) col w col (w.setCell ⟨tb, k * 2 + 3, none⟩ (.pointer (some ⟨x, 0, none⟩))) := by
 have := h.set (k := k + 1) hk (j := 1) (v := .pointer (some ⟨x, 0, none⟩)) (q := ((tab (k + 1)).1, some x)) (by omega) rfl
 rw [show (k + 1) * 2 + 1 = k * 2 + 3 by omega] at this
 exact this
set_option maxHeartbeats 2000000 in
set_option maxRecDepth 100000 in
theorem entry_calls (hC : Cr w col ub cb pb ((x, n) :: K) st) (hR : Rg w col rb tb pb tab) (hI : RgI tab K R) (hk : k + 1 < 20000) (hl : ∀ q, q ∈ (x, n) :: K → q.2.arcs.length ≤ 256) (c : Nat) (hc : 2 ≤ c) :
  Calls Tryz.prog 90 #[.slice (some ⟨tb, k * 2, none⟩) 2 c, .pointer (some ⟨x, 0, none⟩), .pointer (some ⟨pb, 0, none⟩)] w (EntPost w col ub cb pb rb tb k x K R st n) := by
 have HH := Lib.hid (And.intro hC (And.intro hR (And.intro hI hl)))
 clear hC hR hI hl
 go_enter Tryz.func90, Tryz.ntmps90
 go_wp2_with fail
 go_loopg [46] 3 (fun g i wx => ∃ (j : Nat) (col1 : Col), j ≤ 2 ∧ g = 3 - j ∧ i = .int .i64 (j : Int) ∧ Kp (fun d => d = 10) col w col1 wx)
 case atStart => exact ⟨0, col, by omega, by omega, rfl, Kp.refl _ _ _⟩
 case round =>
  obtain ⟨j, col1, hj, rfl, rfl, hK1⟩ := hrel
  have hC1 := HH.out.1.kp hK1 (by unfold crc; omega)
  have hR1 := HH.out.2.1.kp hK1 (by omega)
  obtain ⟨⟨c0, c1⟩, hz⟩ := hR1.cell (k := k) (by omega)
  obtain ⟨⟨c2, c3⟩, -⟩ := hR1.cell (k := k + 1) hk
  rw [show (k + 1) * 2 = k * 2 + 2 by omega] at c2 c3
  have hj3 : j = 0 ∨ j = 1 ∨ j = 2 := by omega
  rcases hj3 with rfl | rfl | rfl
  ·as_aux_lemma =>
   cases hp : (tab k).2 with
   | none => as_aux_lemma =>
    have d1 : wr.cell? ⟨tb, k * 2 + 1, none⟩ = some (.pointer none) := by rw [hp] at c1; exact c1
    have HE := Lib.hid hK1
    clear c0 c1 c2 c3 hC1 hR1 hz hK1
    go_wp2_with fail
    go_roundg 2
    case measure => omega
    case rel => exact ⟨1, col1, by omega, rfl, rfl, HE.out⟩
   | some y => as_aux_lemma =>
    obtain ⟨m, hm, hmR⟩ := HH.out.2.2.1.held k (tab k).1 y (by omega) (by rw [← hp])
    obtain ⟨tvy, nxy, hNy⟩ := hC1.node (List.mem_cons_of_mem _ hm)
    obtain ⟨tvx, nxx, hNx⟩ := hC1.node List.mem_cons_self
    have heq := equiv_calls hNy hNx (HH.out.2.2.2 _ (List.mem_cons_of_mem _ hm)) (HH.out.2.2.2 _ List.mem_cons_self)
    have d1 : wr.cell? ⟨tb, k * 2 + 1, none⟩ = some (.pointer (some ⟨y, 0, none⟩)) := by rw [hp] at c1; exact c1
    have HE := Lib.hid hK1
    clear c0 c1 c2 c3 hC1 hR1 hz hK1 hNy hNx
    go_wp2_with fail
    refine heq.mono ?_
    rintro e w2 ⟨b, rfl, hb, hF⟩
    have hK12 := HE.out.trans (Kp.news (col := col1) hF 10 rfl)
    have hC2 := HH.out.1.kp hK12 (by unfold crc; omega)
    have hR2 := HH.out.2.1.kp hK12 (by omega)
    obtain ⟨⟨a0, -⟩, -⟩ := hR2.cell (k := k) (by omega)
    rw [show k * 2 = k * 2 by omega] at a0
    cases b with
    | false => as_aux_lemma =>
     have HE := Lib.hid hK12
     clear hK12 hC2 hR2 a0 hF heq
     go_wp2_with fail
     go_roundg 2
     case measure => omega
     case rel => exact ⟨1, _, by omega, rfl, rfl, HE.out⟩
    | true => as_aux_lemma =>
     have hmn := hb rfl
     subst hmn
     have HE := Lib.hid (And.intro hC2 (And.intro hR2 (And.intro hK12 hmR)))
     clear hC2 hR2 hK12 hF heq hmR hb
     obtain ⟨av, hav⟩ : ∃ av, Hid ((tab k).1 = av) := ⟨_, Lib.hid rfl⟩
     rw [hav.out] at a0 HE
     go_wp2_with fail
     refine (promote0 _ _).mono ?_
     rintro e w3 ⟨rfl, rfl⟩
     go_wp2_with fail
     go_ret3
     obtain ⟨hC2, hR2, hK12, hmR⟩ := HE.out
     exact .inl ⟨_, tab, _, rfl, hmR, hC2, hR2, HH.out.2.2.1, kpr10 hK12⟩
  ·as_aux_lemma =>
   cases hp : (tab (k + 1)).2 with
   | none => as_aux_lemma =>
    have d1 : wr.cell? ⟨tb, k * 2 + 3, none⟩ = some (.pointer none) := by rw [hp] at c3; exact c3
    have HE := Lib.hid hK1
    clear c0 c1 c2 c3 hC1 hR1 hz hK1
    go_wp2_with fail
    go_roundg 1
    case measure => omega
    case rel => exact ⟨2, col1, by omega, rfl, rfl, HE.out⟩
   | some y => as_aux_lemma =>
    obtain ⟨m, hm, hmR⟩ := HH.out.2.2.1.held (k + 1) (tab (k + 1)).1 y hk (by rw [← hp])
    obtain ⟨tvy, nxy, hNy⟩ := hC1.node (List.mem_cons_of_mem _ hm)
    obtain ⟨tvx, nxx, hNx⟩ := hC1.node List.mem_cons_self
    have heq := equiv_calls hNy hNx (HH.out.2.2.2 _ (List.mem_cons_of_mem _ hm)) (HH.out.2.2.2 _ List.mem_cons_self)
    have d1 : wr.cell? ⟨tb, k * 2 + 3, none⟩ = some (.pointer (some ⟨y, 0, none⟩)) := by rw [hp] at c3; exact c3
    have HE := Lib.hid hK1
    clear c0 c1 c2 c3 hC1 hR1 hz hK1 hNy hNx
    go_wp2_with fail
    refine heq.mono ?_
    rintro e w2 ⟨b, rfl, hb, hF⟩
    have hK12 := HE.out.trans (Kp.news (col := col1) hF 10 rfl)
    have hC2 := HH.out.1.kp hK12 (by unfold crc; omega)
    have hR2 := HH.out.2.1.kp hK12 (by omega)
    obtain ⟨⟨a0, -⟩, -⟩ := hR2.cell (k := (k + 1)) hk
    rw [show (k + 1) * 2 = k * 2 + 2 by omega] at a0
    cases b with
    | false => as_aux_lemma =>
     have HE := Lib.hid hK12
     clear hK12 hC2 hR2 a0 hF heq
     go_wp2_with fail
     go_roundg 1
     case measure => omega
     case rel => exact ⟨2, _, by omega, rfl, rfl, HE.out⟩
    | true => as_aux_lemma =>
     have hmn := hb rfl
     subst hmn
     have HE := Lib.hid (And.intro hC2 (And.intro hR2 (And.intro hK12 hmR)))
     clear hC2 hR2 hK12 hF heq hmR hb
     obtain ⟨av, hav⟩ : ∃ av, Hid ((tab (k + 1)).1 = av) := ⟨_, Lib.hid rfl⟩
     rw [hav.out] at a0 HE
     go_wp2_with fail
     refine (promote1 HE.out.2.1 hk c).mono ?_
     rintro e w3 ⟨rfl, hR3, hK3⟩
     obtain ⟨hC2, hR2, hK12, hmR⟩ := HE.out
     have HG := Lib.hid (And.intro (hC2.kp hK3 (by unfold crc; omega)) (And.intro hR3 (And.intro ((kpr10 hK12).trans (kpr8 hK3)) hmR)))
     clear hC2 hR2 hK12 hmR hR3 hK3 HE
     go_wp2_with fail
     go_ret3
     obtain ⟨h1, h2, h3, h4⟩ := HG.out
     exact .inl ⟨_, swp tab k, _, rfl, h4, h1, h2, HH.out.2.2.1.swapped hk, h3⟩
  ·as_aux_lemma =>
   have hxn := HH.out.1.notin
   cases hp : (tab (k + 1)).2 with
   | none => as_aux_lemma =>
    have d3 : wr.cell? ⟨tb, k * 2 + 3, none⟩ = some (.pointer none) := by rw [hp] at c3; exact c3
    have z3 := hz (k * 2 + 3)
    obtain ⟨hRf, hKf⟩ := hR1.fresh hk x
    have HP1 := Lib.hid (promote1 hRf hk c)
    have HE := Lib.hid (And.intro (hC1.kp hKf (by unfold crc; omega)) (And.intro ((kpr10 hK1).trans (kpr8 hKf)) (fun q hq => hq : ∀ q, q ∈ K → q ∈ K)))
    clear c0 c1 c2 c3 hC1 hR1 hz hK1 hRf hKf
    go_wp2_with fail
    refine (put_nil _ _).mono ?_
    rintro e w2 ⟨rfl, rfl⟩
    go_wp2_with fail
    refine HP1.out.mono ?_
    rintro e w3 ⟨rfl, hR3, hK3⟩
    obtain ⟨hC2, hK2, hKK⟩ := HE.out
    have HG := Lib.hid (fun q => And.intro ((hC2.kp hK3 (by unfold crc; omega)).drewN q) (And.intro (hR3.kp (C := fun _ => False) ((Kp.refl _ col1 w3).drewN q) (fun e => e)) ((hK2.trans (kpr8 hK3)).drewN q)))
    clear hC2 hK2 hR3 hK3 HE HP1
    go_wp2_with fail
    go_quiet (fail)
    go_wp2_with fail
    go_ret3
    obtain ⟨h1, h2, h3⟩ := HG.out _
    exact .inr ⟨_, K, _, (tab (k + 1)).1, rfl, h1, fun q hq => hq, h2, by rw [swp_at0, upd_at], HH.out.2.2.1.new hk hxn (fun q hq _ => hq), h3⟩
   | some y => as_aux_lemma =>
    obtain ⟨m, hm, hmR⟩ := HH.out.2.2.1.held (k + 1) (tab (k + 1)).1 y hk (by rw [← hp])
    obtain ⟨K', hpK, hsub, hrest⟩ : ∃ K', K.Perm ((y, m) :: K') ∧ (∀ q, q ∈ K' → q ∈ K) ∧ ∀ q, q ∈ K → q.1 ≠ y → q ∈ K' := by
     obtain ⟨s, t, rfl⟩ := List.append_of_mem hm
     refine ⟨s ++ t, List.perm_middle, fun q hq => by simp at hq ⊢; rcases hq with hq | hq <;> simp [hq], fun q hq hne => ?_⟩
     simp at hq ⊢
     rcases hq with hq | hq | hq
     ·exact .inl hq
     ·rw [hq] at hne; exact absurd rfl hne
     ·exact .inr hq
    have hpm : ((x, n) :: K).Perm ((y, m) :: (x, n) :: K') := (hpK.cons _).trans (List.Perm.swap _ _ _)
    have hput := (hC1.perm hpm).put
    have d3 : wr.cell? ⟨tb, k * 2 + 3, none⟩ = some (.pointer (some ⟨y, 0, none⟩)) := by rw [hp] at c3; exact c3
    have HE := Lib.hid (And.intro hR1 hK1)
    clear c0 c1 c2 c3 hC1 hR1 hz hK1
    go_wp2_with fail
    refine hput.mono ?_
    rintro e w2 ⟨rfl, hC2, hK2⟩
    have hR2 := HE.out.1.kp hK2 (by unfold npc; omega)
    obtain ⟨⟨-, d4⟩, hz⟩ := hR2.cell (k := k + 1) hk
    rw [show (k + 1) * 2 + 1 = k * 2 + 3 by omega] at d4
    have z3 := hz (k * 2 + 3)
    obtain ⟨hRf, hKf⟩ := hR2.fresh hk x
    have HP1 := Lib.hid (promote1 hRf hk c)
    have hE2 := HE.out.2
    clear HE
    have HE := Lib.hid (And.intro (hC2.kp hKf (by unfold crc; omega)) (And.intro (((kpr10 hE2).trans (kprc (kpn hK2))).trans (kpr8 hKf)) (fun q hq => hq : ∀ q, q ∈ K → q ∈ K)))
    clear hC2 hR2 hz hK2 hRf hKf hput hE2
    obtain ⟨pv, hpv⟩ := ptrN_eq (tab (k + 1)).2
    rw [hpv] at d4
    go_wp2_with fail
    refine HP1.out.mono ?_
    rintro e w3 ⟨rfl, hR3, hK3⟩
    obtain ⟨hC2, hK2, hKK⟩ := HE.out
    have HG := Lib.hid (fun q => And.intro ((hC2.kp hK3 (by unfold crc; omega)).drewN q) (And.intro (hR3.kp (C := fun _ => False) ((Kp.refl _ col1 w3).drewN q) (fun e => e)) ((hK2.trans (kpr8 hK3)).drewN q)))
    clear hC2 hK2 hR3 hK3 HE HP1
    go_wp2_with fail
    go_quiet (fail)
    go_wp2_with fail
    go_ret3
    obtain ⟨h1, h2, h3⟩ := HG.out _
    exact .inr ⟨_, K', _, (tab (k + 1)).1, rfl, h1, hsub, h2, by rw [swp_at0, upd_at], HH.out.2.2.1.new hk hxn (fun q hq hne => hrest q hq fun e => hne (by rw [hp, e])), h3⟩
end
end
section
open Go.RowKit Fmt
section
variable {w w1 : World} {col col1 : Col} {ub cb pb rb tb k x : Nat} {K R : List (Nat × Nd)} {st : List Un} {n : Nd} {tab : Nat → Nat × Option Nat}
theorem EntPost.back {e : Ending} {w' : World} (k0 : Kp rgc col w col1 w1) (h : EntPost w1 col1 ub cb pb rb tb k x K R st n e w') : EntPost w col ub cb pb rb tb k x K R st n e w' := by
 rcases h with ⟨a, tab', col', h1, h2, h3, h4, h5, h6⟩ | ⟨tab', K', col', a0, h1, h2, h3, h4, h5, h6, h7⟩
 ·exact .inl ⟨a, tab', col', h1, h2, h3, h4, h5, k0.trans h6⟩
 ·exact .inr ⟨tab', K', col', a0, h1, h2, h3, h4, h5, h6, k0.trans h7⟩
def RegPost (w : World) (col : Col) (ub cb pb rb tb x : Nat) (K R : List (Nat × Nd)) (st : List Un) (n : Nd) (e : Ending) (w' : World) : Prop := ∃ k, k + 1 < 20000 ∧ EntPost w col ub cb pb rb tb k x K R st n e w'
set_option maxHeartbeats 2000000 in
set_option maxRecDepth 100000 in
theorem reg_calls (hC : Cr w col ub cb pb ((x, n) :: K) st) (hR : Rg w col rb tb pb tab) (hI : RgI tab K R) (hl : ∀ q, q ∈ (x, n) :: K → q.2.arcs.length ≤ 256) :
  Calls Tryz.prog 78 #[.pointer (some ⟨rb, 0, none⟩), .pointer (some ⟨x, 0, none⟩)] w (RegPost w col ub cb pb rb tb x K R st n) := by
 have r0 := hR.blk.blk.cell 0 rfl
 have r1 := hR.blk.blk.cell 1 rfl
 have r2 := hR.blk.blk.cell 2 rfl
 have r3 := hR.blk.blk.cell 3 rfl
 obtain ⟨tvx, nxx, hNx⟩ := hC.node List.mem_cons_self
 have hh := hash_calls (rb := rb) hNx (hl _ List.mem_cons_self) r2
 have HH := Lib.hid (And.intro hC (And.intro hR (And.intro hI hl)))
 clear hC hR hI hl hNx
 go_enter Tryz.func78, Tryz.ntmps78
 go_wp2_with fail
 refine hh.mono ?_
 rintro e w2 ⟨h, hlt, rfl, hF⟩
 have hK := Kp.news (col := col) (C := fun d => d = 10) hF 10 rfl
 have hR2 := HH.out.2.1.kp hK (by omega)
 have q0 := hR2.blk.blk.cell 0 rfl
 have q1 := hR2.blk.blk.cell 1 rfl
 have q2 := hR2.blk.blk.cell 2 rfl
 have q3 := hR2.blk.blk.cell 3 rfl
 have hen := entry_calls (k := 2 * h) (HH.out.1.kp hK (by unfold crc; omega)) hR2 HH.out.2.2.1 (by omega) HH.out.2.2.2 (20000 - 2 * h) (by omega)
 have HK := Lib.hid hK
 clear r0 r1 r2 r3 hh hR2 hF hK
 go_wp2_with fail
 refine hen.mono ?_
 intro e w3 hpost
 have HE := Lib.hid (show RegPost w col ub cb pb rb tb x K R st n e w3 from ⟨2 * h, by omega, hpost.back (kpr10 HK.out)⟩)
 rcases hpost with ⟨a, tab', col', rfl, -⟩ | ⟨tab', K', col', a0, rfl, -⟩
 ·clear hen HK
  go_wp2_with fail
  go_ret3
  exact HE.out
 ·clear hen HK
  go_wp2_with fail
  go_ret3
  exact HE.out
end
end
section
open Go.RowKit Fmt
def laysPut_ren : Go.Shelf.Ren := ⟨fun | 34 => 158 | n => n, fun | 22 => 29 | 25 => 183 | 33 => 40 | 45 => 190 | n => n, fun n => n⟩
theorem laysPut : Go.Proofs.LaysBin.n34 Tryz.prog laysPut_ren := {
 mixed := by kernel_rfl
 f34 := Tryz.func158.trans (congrArg some (by kernel_rfl))
 t0 := Tryz.underlying0
 a0 := Tryz.isAgg0
 z0 := Tryz.sizeOf0
 v0 := Tryz.zeroValue0
 i0 := by kernel_rfl
 t5 := Tryz.underlying5
 a5 := Tryz.isAgg5
 z5 := Tryz.sizeOf5
 v5 := Tryz.zeroValue5
 i5 := by kernel_rfl
 t22 := Tryz.underlying29
 a22 := Tryz.isAgg29
 z22 := Tryz.sizeOf29
 v22 := Tryz.zeroValue29
 i22 := by kernel_rfl
 t25 := Tryz.underlying183
 a25 := Tryz.isAgg183
 z25 := Tryz.sizeOf183
 v25 := Tryz.zeroValue183
 i25 := by kernel_rfl
 t33 := Tryz.underlying40
 a33 := Tryz.isAgg40
 z33 := Tryz.sizeOf40
 v33 := Tryz.zeroValue40
 i33 := by kernel_rfl
 t45 := Tryz.underlying190
 a45 := Tryz.isAgg190
 z45 := Tryz.sizeOf190
 v45 := Tryz.zeroValue190
 i45 := by kernel_rfl }
theorem le_pk : ∀ (n v : Nat), Lib.byteCells (Lib.leBytes n v) = u8s (pk v n)
 | 0, v => rfl
 | n + 1, v => by
  have ih := le_pk n (v / 256)
  have e : ((v % 256).toUInt8).toNat = v % 256 := by
   simp [Nat.toUInt8]
  simp only [Lib.leBytes, Lib.byteCells, List.map_cons, pk, u8s] at ih ⊢
  rw [ih, e]
theorem Blk.sets {b : Nat} {t : TypeId} : ∀ (vs : List Value) {w : World} {cs : List Value} {o : Nat}, Blk w b cs t → o + vs.length ≤ cs.length → Blk (w.setCells b o vs) b (cs.take o ++ vs ++ cs.drop (o + vs.length)) t
 | [], w, cs, o, h, hl => by simpa [World.setCells] using h
 | v :: r, w, cs, o, h, hl => by
  rw [World.setCells]
  simp only [List.length_cons] at hl
  have h1 := Blk.sets r (h.set o v) (o := o + 1) (by rw [List.length_set]; omega)
  have e : (cs.set o v).take (o + 1) ++ r ++ (cs.set o v).drop (o + 1 + r.length) = cs.take o ++ (v :: r) ++ cs.drop (o + (v :: r).length) := by
   rw [List.take_add_one, List.getElem?_set_self (by omega), List.take_set_of_le (Nat.le_refl _), List.drop_set_of_lt (by omega)]
   simp; omega
  rw [← e]; exact h1
theorem Fr.sets {b : Nat} : ∀ (vs : List Value) (w : World) (o : Nat), Fr (fun k => k = b) w (w.setCells b o vs)
 | [], w, o => Fr.refl _ _
 | v :: r, w, o => by
  rw [World.setCells]
  exact (Fr.setCell (F := fun k => k = b) (p := ⟨b, o, none⟩) (Fr.refl _ w) (fun _ => rfl) v).trans (Fr.sets r _ _) (fun _ _ e => e)
theorem put64_calls {w : World} {b o n c v : Nat} {l : List Nat} (hb : Blk w b (u8s l) 5) (hv : v < 18446744073709551616) (hn : 8 ≤ n) (ho : o + 8 ≤ l.length) :
  Calls Tryz.prog 158 #[.agg #[], .slice (some ⟨b, o, none⟩) n c, .int .u64 (v : Int)] w fun e w' => e = .returned (.tuple #[]) ∧ Blk w' b (u8s (l.take o ++ pk v 8 ++ l.drop (o + 8))) 5 ∧ Fr (fun k => k = b) w w' := by
 have hc : ∀ j, j < 8 → w.cell? ⟨b, o + j, none⟩ = some (.int .u8 ((l.getD (o + j) 0 : Nat) : Int)) := fun j hj => hb.cell _ (by
  have : o + j < l.length := by omega
  rw [u8s_at (x := l[o + j]) (List.getElem?_eq_getElem this)]
  simp [List.getD, List.getElem?_eq_getElem this])
 have hz := fun j => hb.frz (o + j)
 refine (Any.binary_LE_PutUint64 laysPut b o n c v hv _ _ _ _ _ _ _ _ w hn (hc 0 (by omega)) (hc 1 (by omega)) (hc 2 (by omega)) (hc 3 (by omega)) (hc 4 (by omega)) (hc 5 (by omega)) (hc 6 (by omega)) (hc 7 (by omega)) (hz 0) (hz 1) (hz 2) (hz 3) (hz 4) (hz 5) (hz 6) (hz 7)).mono ?_
 rintro e w' ⟨rfl, rfl⟩
 have h1 : Blk (w.alloc (.cells #[] (laysPut_ren.t 25))) b (u8s l) 5 := hb.alloc _
 have hl8 : (u8s (pk v 8)).length = 8 := by rw [u8s_len, pk_len]
 have h2 := h1.sets (u8s (pk v 8)) (o := o) (by rw [hl8, u8s_len]; exact ho)
 rw [le_pk]
 refine ⟨rfl, ?_, (((Fr.refl (fun _ => False) w).alloc _).mono (fun _ _ e => e.elim)).trans (Fr.sets _ _ _) (fun _ _ e => e)⟩
 rw [u8s_app, u8s_app, ← u8s_take, ← u8s_drop]
 rw [hl8] at h2
 exact h2
end
end Go.Proofs.YtmhlnijpimjjaaaGreatDoor
