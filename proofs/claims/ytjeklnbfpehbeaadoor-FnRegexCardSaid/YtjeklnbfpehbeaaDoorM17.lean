/- 'Pairs' of the law's own side, walked: it answers from one to four pairs of runes that have bytes. Condition: the slice reads as runes. What 'Expression' of the law's own side reads and makes, ahead of its walk. No condition. The walk of 'Rune' of the law's own side: the rune at the beginning of a text. Condition: the text is at most 10^6 bytes. -/
import Derived.Test.YtjeklnbfpehbeaaDoorM16
import Derived.Test.YtjeklnbfpehbeaaDoorM15
import Derived.Lib.Strings
set_option linter.unusedVariables false
/- 'Pairs' of the law's own side, walked: it answers from one to four pairs of runes that have bytes. Condition: the slice reads as runes. -/
namespace Go.Proofs.YtjeklnbfpehbeaaDoor
open Go.RowKit

/-- A slice of any runes. -/
def RawR (w : World) (v : Value) (n : Nat) : Prop :=
  ∃ A c, v = .slice A n c ∧ ∀ i, i < n → ∃ b o z, A = some ⟨b, o, none⟩ ∧ w.cell? ⟨b, o + i, none⟩ = some (.int .i32 z)

/-- Pairs under way. -/
structure PairsAt (w0 w : World) (v : Value) (l : List (Nat × Nat)) : Prop where
  row : w.ownsRow w0.heap.size 21 1 v (flat l).length ((flat l).map fun (r : Nat) => Value.int .i32 (r : Int))
  ok : ∀ q, q ∈ l → okRange q.1 q.2
  fr : Fr (fun _ => False) w0 w

section
variable {ops : Array Oper} {rest : List Oper} {o : Oper} {a : Act} {Q : Exit → Act → World → Prop}
/-- append(v, y..), the new elements laid into a block of their own just ahead. -/
theorem appm (W : World) (b : Nat) (hb : W.heap.size = b) (hgd : o.guard = none) (s x : Operand) (t : TypeId) (ho : o.op = .call { callee := .builtin .append, args := #[s, x], argTypes := #[t, t] })
    (base : Nat) (e : TypeId) (z : Value) (size bytes : Nat) (ht : Tryd.prog.underlying t = some (.slice e)) (hinfo : (Tryd.prog.info? e).map (fun i => (i.zero, i.size, i.bytes)) = some (some z, size, bytes)) (hzs : z.cells.size = size) (hsz : 0 < size)
    (v : Value) (n m : Nat) (xs : List Value) (news : List Value) (hs : a.eval s = v) (hx : a.eval x = .slice (some ⟨b, 0, none⟩) m m) (hown : W.ownsRow base e size v n xs) (hl : news.length = m * size) (h1 : ∀ u ∈ news, u.oneCell' = true)
    (hbytes : (n + m) * bytes ≤ 140737488355328) (hb0 : 0 < bytes) (hbase : base ≤ W.heap.size)
    (h : ∀ v' w', w'.ownsRow base e size v' (n + m) (xs ++ news) → Fr (fun k => v.ownBlock = some k) W w' → (v'.ownBlock = v.ownBlock ∨ ∃ b, v'.ownBlock = some b ∧ W.heap.size ≤ b) → wpList Tryd.prog ops Q rest (a.put o.dst v') w') :
    wpList Tryd.prog ops Q (o :: rest) a (W.alloc (.cells news.toArray e)) := by
  subst hb
  obtain ⟨i0, hi, hzz⟩ := Option.map_eq_some_iff.1 hinfo
  simp only [Prod.mk.injEq] at hzz
  obtain ⟨hz0, hz1, hz2⟩ := hzz
  have hlen : n + m ≤ 140737488355328 := Nat.le_trans (Nat.le_mul_of_pos_right _ hb0) hbytes
  refine wpList_append_own_at (W.alloc (.cells news.toArray e)) hgd s x t ho base e i0 z size bytes ht hi hz0 hz1 hz2 hzs hsz v n xs hs (hown.alloc _) ⟨W.heap.size, 0, none⟩ m m news hx hl
    (World.news_of_block (cs := news.toArray) (t := e) (fr := (0, 0)) (heap_alloc_new W _)) h1 (by simp only [maxLen]; omega) hbytes (by simp; omega) ?_
  intro v1 w1 hown1 hg _ hat
  refine h v1 w1 hown1 (((Fr.refl _ W).alloc _).grown hg (fun k hk hlt => hk)) ?_
  rcases hat with hat | hat
  · exact .inl hat
  · exact .inr ⟨_, hat, by simp⟩
end

theorem flat_snoc (l : List (Nat × Nat)) (q : Nat × Nat) : flat (l ++ [q]) = flat l ++ [q.1, q.2] := by simp [flat]

set_option maxRecDepth 100000 in
set_option maxHeartbeats 4000000 in
theorem pairs_calls {w : World} {v : Value} {n : Nat} (h : RawR w v n) : Calls Tryd.prog 15 #[v] w fun e w' => ∃ g m c l, e = .returned (.slice (some ⟨g, 0, none⟩) m c) ∧ w.heap.size ≤ g ∧ m = (flat l).length ∧ RunesAt w' (.slice (some ⟨g, 0, none⟩) m c) (flat l) ∧ 1 ≤ l.length ∧ l.length ≤ 4 ∧ (∀ q, q ∈ l → okRange q.1 q.2) ∧ Fr (fun _ => False) w w' := by
  obtain ⟨A, c, rfl, hcell⟩ := h
  have HC := Lib.hid hcell
  clear hcell
  go_enter Tryd.func15, Tryd.ntmps15
  go_wp2_with fail
  go_loopg [3, 4] 5 (fun g out i wr => ∃ (k t : Nat) (l : List (Nat × Nat)), k ≤ 4 ∧ g = 4 - k + 1 ∧ i = .int .i64 (t : Int) ∧ Hid (t = 2 * k) ∧ l.length ≤ k ∧ PairsAt w wr out l)
  case atStart => exact ⟨0, 0, [], by omega, rfl, rfl, Lib.hid rfl, by simp, World.ownsRow_nil _ _ _ _, by simp, Fr.refl _ _⟩
  case round =>
    obtain ⟨k, t, l, hk, rfl, rfl, ht, hlk, hp⟩ := hrel
    obtain ⟨oA, oc, rfl⟩ := own_sl' hp.row
    have ht' := ht.out
    have hfl := flat_len l
    obtain ⟨N, hN⟩ : ∃ N, Hid (N = (flat l).length) := ⟨_, Lib.hid rfl⟩
    have hN2 : Hid (N = 2 * l.length) := Lib.hid (by rw [hN.out, hfl])
    rw [← hN.out] at hp ⊢
    clear hfl
    by_cases c1 : t + 1 < n
    · have e1 : (t : Int) + 1 < (n : Int) := by omega
      have et : (t : Int) < (n : Int) := by omega
      by_cases c2 : t < 8
      · have e2 : (t : Int) < 8 := by omega
        obtain ⟨b, o, z0, rfl, r0⟩ := HC.out t (by omega)
        obtain ⟨b', o', z1, hb', r1⟩ := HC.out (t + 1) (by omega)
        simp at hb'
        obtain ⟨rfl, rfl⟩ := hb'
        have q0 : wr.drew.cell? ⟨b, o + t, none⟩ = some (.int .i32 z0) := hp.fr.cell r0 (fun h => h)
        have q1 : wr.drew.cell? ⟨b, o + (t + 1), none⟩ = some (.int .i32 z1) := hp.fr.cell r1 (fun h => h)
        have hL := letter_calls wr.drew z0
        have ew0 : IntKind.i64.wrap (t : Int) = (t : Int) := IntWalk.i64_in _ (by omega)
        have ew1 : IntKind.i64.wrap ((t : Int) + 1) = (t : Int) + 1 := IntWalk.i64_in _ (by omega)
        have e01 : (0 : Int) ≤ (t : Int) := by omega
        have e02 : (0 : Int) ≤ (t : Int) + 1 := by omega
        have HP := Lib.hid hp
        clear hp r0 r1 ht'
        go_wp2_with fail
        refine wp_region_seqV (fun w' => w'.cell? ⟨b, o + t, none⟩ = some (.int .i32 z0) ∧ w'.cell? ⟨b, o + (t + 1), none⟩ = some (.int .i32 z1)) (fun i => ![4, 10].contains i) (fun i => ![3, 9, 4, 10].contains i) (fun i => false) [0, 1, 2, 3, 5, 6, 7, 8, 9, 4, 10, 11, 12] (by kernel_rfl) (by kernel_rfl) (fun c a d v w h => by cases d <;> exact h) ⟨q0, q1⟩ ?_
        iterate 3 (apply seqV_pure (ho := rfl) (hr := rfl) (hg := rfl); (intro w'; go_simp; rfl))
        (apply seqV_read (ho := rfl) (hr := rfl) (hp := rfl) (hg := rfl); (rintro w' ⟨q1, q2⟩; go_simp; rfl))
        iterate 4 (apply seqV_pure (ho := rfl) (hr := rfl) (hg := rfl); (intro w'; go_simp; rfl))
        (apply seqV_read (ho := rfl) (hr := rfl) (hp := rfl) (hg := rfl); (rintro w' ⟨q1, q2⟩; go_simp; rfl))
        refine seqV_do rfl rfl fun K hK => ?_
        go_simp
        refine hL.mono ?_
        rintro e w1 ⟨r, hr, rfl, hf1⟩
        have p0 := hf1.cell q0 (fun h => h)
        have p1 := hf1.cell q1 (fun h => h)
        refine hK _ _ (fun _ => ⟨p0, p1⟩) ?_
        clear hK K
        have hL2 := letter_calls w1 z1
        refine seqV_do rfl rfl fun K hK => ?_
        go_simp
        refine hL2.mono ?_
        rintro e w2 ⟨s, hs, rfl, hf2⟩
        refine hK _ _ (fun _ => ⟨hf2.cell p0 (fun h => h), hf2.cell p1 (fun h => h)⟩) ?_
        clear hK K
        iterate 2 (apply seqV_pure (ho := rfl) (hr := rfl) (hg := rfl); (intro w'; go_simp; rfl))
        unfold seqV
        have HR := Lib.hid hr
        have HS := Lib.hid hs
        have HF := Lib.hid ((Fr.drew (Fr.refl (fun _ => False) wr)).trans (hf1.trans hf2 (fun _ _ h => h)) (fun _ _ h => h))
        clear hr hs hf1 hf2 p0 p1 q0 q1 hL hL2
        have hrow2 : Hid (w2.ownsRow w.heap.size 21 1 (.slice oA N oc) N ((flat l).map fun (r : Nat) => Value.int .i32 (r : Int))) := Lib.hid (by rw [hN.out] at HP ⊢; exact own_fr HP.out.row HF.out (fun _ _ h => h))
        have hf02 : Hid (Fr (fun _ => False) w w2) := Lib.hid (HP.out.fr.trans HF.out (fun _ _ h => h))
        have hok := Lib.hid HP.out.ok
        clear HP HF
        by_cases hlt : s < r
        · obtain ⟨A, hA⟩ : ∃ A, A = s := ⟨_, rfl⟩
          obtain ⟨B, hB⟩ : ∃ B, B = r := ⟨_, rfl⟩
          have hab : Hid (okRange A B) := Lib.hid (by subst hA; subst hB; exact ⟨HS.out, HR.out, Nat.le_of_lt hlt⟩)
          have e3 : (s : Int) < (r : Int) := by omega
          subst hA
          subst hB
          have e4 : IntKind.i32.wrap (1 : Int) = 1 := rfl
          rcases List.eq_nil_or_concat l with rfl | ⟨l', q, hl⟩
          · have hN0 := hN2.out
            simp at hN0
            subst hN0
            go_wp2_with (at_builtin; ((refine appm w2 w2.heap.size rfl rfl _ _ 22 rfl w.heap.size 21 (.int .i32 0) 1 4 Tryd.underlying22 (by kernel_rfl) rfl (by decide) (.slice oA 0 oc) 0 2 _ [.int .i32 (A : Int), .int .i32 (B : Int)] rfl rfl hrow2.out rfl (by simp [Value.oneCell']) (by omega) (by decide) hf02.out.size ?_); intro v3 w3 ho3 hf3 hn3))
            have hfr3 : Fr (fun _ => False) w w3 := hf02.out.trans hf3 (fun k hk e => by have := (own_lt' hrow2.out e).1; omega)
            have hp3 : PairsAt w w3 v3 ([] ++ [(A, B)]) := ⟨by rw [flat_snoc, List.map_append, List.length_append]; rw [hN.out] at ho3; exact ho3, by intro q hq; rcases List.mem_append.1 hq with hq | hq; exact hok.out q hq; simp at hq; subst hq; exact hab.out, hfr3⟩
            have hk4 : k < 4 := by have := ht.out; omega
            go_roundg (4 - (k + 1) + 1)
            case measure => omega
            case rel => exact ⟨k + 1, t + 2, _, by omega, rfl, rfl, Lib.hid (by have := ht.out; omega), by rw [List.length_append, List.length_singleton]; omega, hp3⟩
          · rw [List.concat_eq_append] at hl
            subst hl
            have hN0 : 2 ≤ N := by have := hN2.out; rw [List.length_append] at this; simp only [List.length_cons, List.length_nil] at this; omega
            have hN9 : N ≤ 10 := by have := hN2.out; omega
            have hqm : okRange q.1 q.2 := hok.out q (by simp)
            have hq2 : q.2 ≤ 1114111 := hqm.2.1.1
            obtain ⟨gg, cc, hsl, -, -, hcl, -⟩ := own_cell hrow2.out (j := N - 1) (u := .int .i32 (q.2 : Int)) (by
              have e1 : (flat (l' ++ [q])).length = N := hN.out.symm
              rw [flat_snoc] at e1 ⊢
              simp at e1
              have e2 : N - 1 = (flat l').length + 1 := by omega
              rw [e2, List.getElem?_map, List.getElem?_append_right (by omega)]
              simp)
            simp at hsl
            obtain ⟨rfl, rfl⟩ := hsl
            have f1 : (0 : Int) < (N : Int) := by omega
            have f2 : wrap64 ((N : Int) - 1) = (N : Int) - 1 := IntWalk.wrap64_in _ (by omega)
            have f3 : (0 : Int) ≤ (N : Int) - 1 := by omega
            have f4 : (N : Int) - 1 < (N : Int) := by omega
            have f5 : ((N : Int) - 1).toNat = N - 1 := by omega
            obtain ⟨Z, hZ⟩ : ∃ Z : Int, Z = (q.2 : Int) + 1 := ⟨_, rfl⟩
            have f6 : IntKind.i32.wrap ((q.2 : Int) + 1) = Z := by rw [hZ]; exact IntWalk.i32_in _ (by omega)
            have f7 : wrap32 ((q.2 : Int) + 1) = Z := by rw [hZ]; exact IntWalk.wrap32_in _ (by omega)
            clear hZ
            by_cases hle : (A : Int) ≤ Z
            · go_wp2_with fail
              have hp3 : PairsAt w w2 (.slice (some ⟨gg, 0, none⟩) N oc) (l' ++ [q]) := ⟨by have h1 := hrow2.out; rw [hN.out] at h1 ⊢; exact h1, hok.out, hf02.out⟩
              have hk4 : k < 4 := by have := ht.out; omega
              rw [hN.out] at hp3 ⊢
              go_roundg (4 - (k + 1) + 1)
              case measure => omega
              case rel => exact ⟨k + 1, t + 2, _, by omega, rfl, rfl, Lib.hid (by have := ht.out; omega), by omega, hp3⟩
            · go_wp2_with (at_builtin; ((refine appm w2 w2.heap.size rfl rfl _ _ 22 rfl w.heap.size 21 (.int .i32 0) 1 4 Tryd.underlying22 (by kernel_rfl) rfl (by decide) (.slice (some ⟨gg, 0, none⟩) N oc) N 2 _ [.int .i32 (A : Int), .int .i32 (B : Int)] rfl rfl hrow2.out rfl (by simp [Value.oneCell']) (by omega) (by decide) hf02.out.size ?_); intro v3 w3 ho3 hf3 hn3))
              have hfr3 : Fr (fun _ => False) w w3 := hf02.out.trans hf3 (fun k hk e => by have := (own_lt' hrow2.out e).1; omega)
              have hp3 : PairsAt w w3 v3 ((l' ++ [q]) ++ [(A, B)]) := ⟨by rw [flat_snoc, List.map_append, List.length_append]; rw [hN.out] at ho3; exact ho3, by intro q hq; rcases List.mem_append.1 hq with hq | hq; exact hok.out q hq; simp at hq; subst hq; exact hab.out, hfr3⟩
              have hk4 : k < 4 := by have := ht.out; omega
              go_roundg (4 - (k + 1) + 1)
              case measure => omega
              case rel => exact ⟨k + 1, t + 2, _, by omega, rfl, rfl, Lib.hid (by have := ht.out; omega), by rw [List.length_append, List.length_singleton]; omega, hp3⟩
        · obtain ⟨A, hA⟩ : ∃ A, A = r := ⟨_, rfl⟩
          obtain ⟨B, hB⟩ : ∃ B, B = s := ⟨_, rfl⟩
          have hab : Hid (okRange A B) := Lib.hid (by subst hA; subst hB; exact ⟨HR.out, HS.out, by omega⟩)
          have e3 : ¬ ((s : Int) < (r : Int)) := by omega
          subst hA
          subst hB
          have e4 : IntKind.i32.wrap (1 : Int) = 1 := rfl
          rcases List.eq_nil_or_concat l with rfl | ⟨l', q, hl⟩
          · have hN0 := hN2.out
            simp at hN0
            subst hN0
            go_wp2_with (at_builtin; ((refine appm w2 w2.heap.size rfl rfl _ _ 22 rfl w.heap.size 21 (.int .i32 0) 1 4 Tryd.underlying22 (by kernel_rfl) rfl (by decide) (.slice oA 0 oc) 0 2 _ [.int .i32 (A : Int), .int .i32 (B : Int)] rfl rfl hrow2.out rfl (by simp [Value.oneCell']) (by omega) (by decide) hf02.out.size ?_); intro v3 w3 ho3 hf3 hn3))
            have hfr3 : Fr (fun _ => False) w w3 := hf02.out.trans hf3 (fun k hk e => by have := (own_lt' hrow2.out e).1; omega)
            have hp3 : PairsAt w w3 v3 ([] ++ [(A, B)]) := ⟨by rw [flat_snoc, List.map_append, List.length_append]; rw [hN.out] at ho3; exact ho3, by intro q hq; rcases List.mem_append.1 hq with hq | hq; exact hok.out q hq; simp at hq; subst hq; exact hab.out, hfr3⟩
            have hk4 : k < 4 := by have := ht.out; omega
            go_roundg (4 - (k + 1) + 1)
            case measure => omega
            case rel => exact ⟨k + 1, t + 2, _, by omega, rfl, rfl, Lib.hid (by have := ht.out; omega), by rw [List.length_append, List.length_singleton]; omega, hp3⟩
          · rw [List.concat_eq_append] at hl
            subst hl
            have hN0 : 2 ≤ N := by have := hN2.out; rw [List.length_append] at this; simp only [List.length_cons, List.length_nil] at this; omega
            have hN9 : N ≤ 10 := by have := hN2.out; omega
            have hqm : okRange q.1 q.2 := hok.out q (by simp)
            have hq2 : q.2 ≤ 1114111 := hqm.2.1.1
            obtain ⟨gg, cc, hsl, -, -, hcl, -⟩ := own_cell hrow2.out (j := N - 1) (u := .int .i32 (q.2 : Int)) (by
              have e1 : (flat (l' ++ [q])).length = N := hN.out.symm
              rw [flat_snoc] at e1 ⊢
              simp at e1
              have e2 : N - 1 = (flat l').length + 1 := by omega
              rw [e2, List.getElem?_map, List.getElem?_append_right (by omega)]
              simp)
            simp at hsl
            obtain ⟨rfl, rfl⟩ := hsl
            have f1 : (0 : Int) < (N : Int) := by omega
            have f2 : wrap64 ((N : Int) - 1) = (N : Int) - 1 := IntWalk.wrap64_in _ (by omega)
            have f3 : (0 : Int) ≤ (N : Int) - 1 := by omega
            have f4 : (N : Int) - 1 < (N : Int) := by omega
            have f5 : ((N : Int) - 1).toNat = N - 1 := by omega
            obtain ⟨Z, hZ⟩ : ∃ Z : Int, Z = (q.2 : Int) + 1 := ⟨_, rfl⟩
            have f6 : IntKind.i32.wrap ((q.2 : Int) + 1) = Z := by rw [hZ]; exact IntWalk.i32_in _ (by omega)
            have f7 : wrap32 ((q.2 : Int) + 1) = Z := by rw [hZ]; exact IntWalk.wrap32_in _ (by omega)
            clear hZ
            by_cases hle : (A : Int) ≤ Z
            · go_wp2_with fail
              have hp3 : PairsAt w w2 (.slice (some ⟨gg, 0, none⟩) N oc) (l' ++ [q]) := ⟨by have h1 := hrow2.out; rw [hN.out] at h1 ⊢; exact h1, hok.out, hf02.out⟩
              have hk4 : k < 4 := by have := ht.out; omega
              rw [hN.out] at hp3 ⊢
              go_roundg (4 - (k + 1) + 1)
              case measure => omega
              case rel => exact ⟨k + 1, t + 2, _, by omega, rfl, rfl, Lib.hid (by have := ht.out; omega), by omega, hp3⟩
            · go_wp2_with (at_builtin; ((refine appm w2 w2.heap.size rfl rfl _ _ 22 rfl w.heap.size 21 (.int .i32 0) 1 4 Tryd.underlying22 (by kernel_rfl) rfl (by decide) (.slice (some ⟨gg, 0, none⟩) N oc) N 2 _ [.int .i32 (A : Int), .int .i32 (B : Int)] rfl rfl hrow2.out rfl (by simp [Value.oneCell']) (by omega) (by decide) hf02.out.size ?_); intro v3 w3 ho3 hf3 hn3))
              have hfr3 : Fr (fun _ => False) w w3 := hf02.out.trans hf3 (fun k hk e => by have := (own_lt' hrow2.out e).1; omega)
              have hp3 : PairsAt w w3 v3 ((l' ++ [q]) ++ [(A, B)]) := ⟨by rw [flat_snoc, List.map_append, List.length_append]; rw [hN.out] at ho3; exact ho3, by intro q hq; rcases List.mem_append.1 hq with hq | hq; exact hok.out q hq; simp at hq; subst hq; exact hab.out, hfr3⟩
              have hk4 : k < 4 := by have := ht.out; omega
              go_roundg (4 - (k + 1) + 1)
              case measure => omega
              case rel => exact ⟨k + 1, t + 2, _, by omega, rfl, rfl, Lib.hid (by have := ht.out; omega), by rw [List.length_append, List.length_singleton]; omega, hp3⟩

      · have e2 : ¬ ((t : Int) < 8) := by omega
        have ew1 : IntKind.i64.wrap ((t : Int) + 1) = (t : Int) + 1 := IntWalk.i64_in _ (by omega)
        have ew2 : wrap64 ((t : Int) + 1) = (t : Int) + 1 := IntWalk.wrap64_in _ (by omega)
        have HP := Lib.hid hp
        clear hp ht'
        rcases List.eq_nil_or_concat l with rfl | ⟨l', q, hl⟩
        · have hN0 := hN2.out
          simp at hN0
          subst hN0
          go_wp2_with fail
          go_ret
          exact ⟨_, _, _, rfl, HP.out.fr.size, [(97, 99)], rfl, runes_new (rs := [97, 99]) (Blk.newAt _ _ 21 _ (by simp)) rfl, by simp, by simp, by intro a b hq; simp at hq; obtain ⟨rfl, rfl⟩ := hq; exact ⟨⟨by omega, by omega⟩, ⟨by omega, by omega⟩, by omega⟩, HP.out.fr.trans ((Fr.refl _ wr).alloc _) (fun _ _ h => h)⟩
        · rw [List.concat_eq_append] at hl
          subst hl
          obtain ⟨M, hM⟩ : ∃ M, M + 1 = N := ⟨N - 1, by have := hN2.out; rw [List.length_append] at this; simp only [List.length_cons, List.length_nil] at this; omega⟩
          obtain ⟨gg, cc, hsl⟩ := own_slc (n := M) (by have h1 := HP.out.row; rw [← hN.out, ← hM] at h1; exact h1)
          rw [hM] at hsl
          simp at hsl
          obtain ⟨rfl, rfl⟩ := hsl
          have f1 : ¬ ((N : Int) = 0) := by omega
          go_wp2_with fail
          go_ret
          rw [hN.out] at HP ⊢
          exact ⟨_, _, _, rfl, (own_lt' HP.out.row (k := gg) rfl).1, l' ++ [q], rfl, runes_of_row HP.out.row, by simp, by have := ht.out; omega, fun a b h => HP.out.ok (a, b) h, HP.out.fr⟩
    · have e1 : ¬ ((t : Int) + 1 < (n : Int)) := by omega
      have ew1 : IntKind.i64.wrap ((t : Int) + 1) = (t : Int) + 1 := IntWalk.i64_in _ (by omega)
      have ew2 : wrap64 ((t : Int) + 1) = (t : Int) + 1 := IntWalk.wrap64_in _ (by omega)
      have HP := Lib.hid hp
      clear hp ht'
      rcases List.eq_nil_or_concat l with rfl | ⟨l', q, hl⟩
      · have hN0 := hN2.out
        simp at hN0
        subst hN0
        go_wp2_with fail
        go_ret
        exact ⟨_, _, _, rfl, HP.out.fr.size, [(97, 99)], rfl, runes_new (rs := [97, 99]) (Blk.newAt _ _ 21 _ (by simp)) rfl, by simp, by simp, by intro a b hq; simp at hq; obtain ⟨rfl, rfl⟩ := hq; exact ⟨⟨by omega, by omega⟩, ⟨by omega, by omega⟩, by omega⟩, HP.out.fr.trans ((Fr.refl _ wr).alloc _) (fun _ _ h => h)⟩
      · rw [List.concat_eq_append] at hl
        subst hl
        obtain ⟨M, hM⟩ : ∃ M, M + 1 = N := ⟨N - 1, by have := hN2.out; rw [List.length_append] at this; simp only [List.length_cons, List.length_nil] at this; omega⟩
        obtain ⟨gg, cc, hsl⟩ := own_slc (n := M) (by have h1 := HP.out.row; rw [← hN.out, ← hM] at h1; exact h1)
        rw [hM] at hsl
        simp at hsl
        obtain ⟨rfl, rfl⟩ := hsl
        have f1 : ¬ ((N : Int) = 0) := by omega
        go_wp2_with fail
        go_ret
        rw [hN.out] at HP ⊢
        exact ⟨_, _, _, rfl, (own_lt' HP.out.row (k := gg) rfl).1, l' ++ [q], rfl, runes_of_row HP.out.row, by simp, by have := ht.out; omega, fun a b h => HP.out.ok (a, b) h, HP.out.fr⟩
end Go.Proofs.YtjeklnbfpehbeaaDoor

/- What 'Expression' of the law's own side reads and makes, ahead of its walk. No condition. -/
namespace Go.Proofs.YtjeklnbfpehbeaaDoor
open Go.RowKit

/-- Any value of the type, read so many levels deep. -/
inductive RawE (w : World) : Nat → Value → Prop
  | mk {d rn n c rc : Nat} {x mn mx : Int} {la fo : Bool} {rA A : Option Addr} (xs : Nat → List Value) (hr : RawR w (.slice rA rn rc) rn)
      (hx : ∀ i, i < n → ∃ b o, A = some ⟨b, o, none⟩ ∧ (xs i).length = 7 ∧ ∀ j u, (xs i)[j]? = some u → w.cell? ⟨b, o + i * 7 + j, none⟩ = some u)
      (hs : ∀ i d', i < n → d = d' + 1 → RawE w d' (.agg (xs i).toArray)) :
      RawE w d (.agg #[.int .i64 x, .slice rA rn rc, .int .i64 mn, .int .i64 mx, .bool la, .bool fo, .slice A n c])

theorem RawR.fr {w w' : World} {v : Value} {n : Nat} (h : RawR w v n) (hf : Fr (fun _ => False) w w') : RawR w' v n := by
  obtain ⟨A, c, rfl, h⟩ := h
  refine ⟨A, c, rfl, fun i hi => ?_⟩
  obtain ⟨b, o, z, h1, h2⟩ := h i hi
  exact ⟨b, o, z, h1, hf.cell h2 (fun h => h)⟩
theorem RawE.fr {w w' : World} (hf : Fr (fun _ => False) w w') {d : Nat} {v : Value} (h : RawE w d v) : RawE w' d v := by
  induction h with
  | mk xs hr hx hs ih =>
    refine .mk xs (hr.fr hf) (fun i hi => ?_) (fun i d' hi hd => ih i d' hi hd)
    obtain ⟨b, o, h1, h2, h3⟩ := hx i hi
    exact ⟨b, o, h1, h2, fun j u hj => hf.cell (h3 j u hj) (fun h => h)⟩
theorem RawE.form {w : World} {d : Nat} {v : Value} (h : RawE w d v) : ∃ (x mn mx : Int) (la fo : Bool) (rA A : Option Addr) (rn rc n c : Nat), v = .agg #[.int .i64 x, .slice rA rn rc, .int .i64 mn, .int .i64 mx, .bool la, .bool fo, .slice A n c] := by
  cases h with
  | mk xs hr hx hs => exact ⟨_, _, _, _, _, _, _, _, _, _, _, rfl⟩

/-- A value that lies in the blocks P stays where these do. -/
theorem re_mask {w w' : World} {P Q : Nat → Prop} {F : Nat → Prop} {r : RE} {v : Value} (h : ReAt (mask w P) r v) (hf : Fr F w w') (hF : ∀ k, k < w.heap.size → P k → ¬ F k) (hPQ : ∀ k, P k → Q k) : ReAt (mask w' Q) r v :=
  ReAt.fr (mask_fr hf.os hf.tape hf.output hf.size hPQ (fun k hk hP => hf.block k hk (hF k hk hP))) (fun k cs t h ht hn => hn (mask_blk h (by rcases ht with rfl | rfl | rfl <;> decide))) h
theorem re_unmask {w : World} {P : Nat → Prop} {r : RE} {v : Value} (h : ReAt (mask w P) r v) : ReAt w r v :=
  ReAt.fr (mask_out rfl rfl rfl (Nat.le_refl _) (fun _ _ _ => rfl)) (fun k cs t h ht hn => hn (mask_blk h (by rcases ht with rfl | rfl | rfl <;> decide))) h
theorem re_below {w : World} {P : Nat → Prop} {r : RE} {v : Value} (h : ReAt (mask w P) r v) : ReAt (mask w (fun k => P k ∧ k < w.heap.size)) r v := by
  have hf : Fr (fun k => ¬ (P k ∧ k < w.heap.size)) (mask w P) (mask w (fun k => P k ∧ k < w.heap.size)) := ⟨rfl, rfl, rfl, by simp [mask], fun k hk hP => by
    have hP' : P k ∧ k < w.heap.size := Classical.not_not.1 hP
    rw [mask_at (P := fun k => P k ∧ k < w.heap.size) hP', mask_at hP'.1]⟩
  exact ReAt.fr (w := mask w P) hf (fun k cs t hb ht hn => hn ⟨mask_blk hb (by rcases ht with rfl | rfl | rfl <;> decide), by have := hb.lt; simpa [mask] using this⟩) h

/-- The expression with this number and these parts. -/
def mkRE (o : Nat) (L : List RE) (mn : Nat) (mx : Option Nat) : RE :=
  match o, L with
  | 18, L => .cat L
  | 19, L => .alt L
  | 14, r :: _ => .star r
  | 15, r :: _ => .plus r
  | 16, r :: _ => .quest r
  | 17, r :: _ => .rep mn mx r
  | _, r :: _ => .cap r
  | _, [] => .emp
theorem mkRE_ok {o : Nat} {L : List RE} {mn d : Nat} {mx : Option Nat} (ho : o = 13 ∨ o = 14 ∨ o = 15 ∨ o = 16 ∨ o = 17 ∨ o = 18 ∨ o = 19) (h1 : 1 ≤ L.length) (h3 : L.length ≤ 3) (hone : ¬ (o = 18 ∨ o = 19) → L.length = 1)
    (hmn : mn ≤ 3) (hmx : ∀ m, mx = some m → mn ≤ m ∧ m ≤ 5) (hS : ∀ r, r ∈ L → Shp r d) (hW : ∀ r, r ∈ L → WfR r) :
    opOf (mkRE o L mn mx) = o ∧ subsOf (mkRE o L mn mx) = L ∧ runesOf (mkRE o L mn mx) = [] ∧ (o = 17 → ∃ r, mkRE o L mn mx = .rep mn mx r) ∧ (o ≠ 17 → ∀ a b, boundsOf (mkRE o L mn mx) a b) ∧ Shp (mkRE o L mn mx) (d + 1) ∧ WfR (mkRE o L mn mx) := by
  have hSL : ∀ l : List RE, (∀ r, r ∈ l → Shp r d) → ShpL l d := by
    intro l
    induction l with
    | nil => intro _; simp only [ShpL]
    | cons a l ih => intro h; simp only [ShpL]; exact ⟨h a (by simp), ih (fun r hr => h r (by simp [hr]))⟩
  have hWL : ∀ l : List RE, (∀ r, r ∈ l → WfR r) → WfL l := by
    intro l
    induction l with
    | nil => intro _; simp only [WfL]
    | cons a l ih => intro h; simp only [WfL]; exact ⟨h a (by simp), ih (fun r hr => h r (by simp [hr]))⟩
  match L, h1 with
  | r :: l, _ =>
    have hr := hS r (by simp)
    have hw := hW r (by simp)
    rcases ho with rfl | rfl | rfl | rfl | rfl | rfl | rfl
    · have hl := hone (by omega); simp at hl; subst hl
      simp only [mkRE, opOf, subsOf, runesOf, boundsOf, Shp, WfR]
      exact ⟨trivial, trivial, trivial, by omega, fun _ _ _ => trivial, ⟨d, rfl, hr⟩, hw⟩
    · have hl := hone (by omega); simp at hl; subst hl
      simp only [mkRE, opOf, subsOf, runesOf, boundsOf, Shp, WfR]
      exact ⟨trivial, trivial, trivial, by omega, fun _ _ _ => trivial, ⟨d, rfl, hr⟩, hw⟩
    · have hl := hone (by omega); simp at hl; subst hl
      simp only [mkRE, opOf, subsOf, runesOf, boundsOf, Shp, WfR]
      exact ⟨trivial, trivial, trivial, by omega, fun _ _ _ => trivial, ⟨d, rfl, hr⟩, hw⟩
    · have hl := hone (by omega); simp at hl; subst hl
      simp only [mkRE, opOf, subsOf, runesOf, boundsOf, Shp, WfR]
      exact ⟨trivial, trivial, trivial, by omega, fun _ _ _ => trivial, ⟨d, rfl, hr⟩, hw⟩
    · have hl := hone (by omega); simp at hl; subst hl
      simp only [mkRE, opOf, subsOf, runesOf, Shp, WfR]
      exact ⟨trivial, trivial, trivial, fun _ => ⟨r, rfl⟩, by omega, ⟨d, rfl, hmn, fun m hm => (hmx m hm).2, hr⟩, by omega, fun m hm => ⟨by have := (hmx m hm).2; omega, (hmx m hm).1⟩, hw⟩
    · simp only [mkRE, opOf, subsOf, runesOf, boundsOf, Shp, WfR]
      exact ⟨trivial, trivial, trivial, by omega, fun _ _ _ => trivial, ⟨d, rfl, h3, hSL _ hS⟩, by omega, hWL _ hW⟩
    · simp only [mkRE, opOf, subsOf, runesOf, boundsOf, Shp, WfR]
      exact ⟨trivial, trivial, trivial, by omega, fun _ _ _ => trivial, ⟨d, rfl, h3, hSL _ hS⟩, by simp, by omega, hWL _ hW⟩

theorem flat7 : ∀ (cs : List (List Value)), (∀ x, x ∈ cs → x.length = 7) → ∀ (i j : Nat) (x : List Value) (u : Value), cs[i]? = some x → x[j]? = some u → cs.flatten[7 * i + j]? = some u
  | [], _, i, j, x, u, hi, _ => by simp at hi
  | c :: cs, h, i, j, x, u, hi, hj => by
    have hc := h c (by simp)
    cases i with
    | zero =>
      simp at hi
      subst hi
      have := (List.getElem?_eq_some_iff.1 hj).1
      simp only [List.flatten_cons]
      rw [List.getElem?_append_left (by omega)]
      simpa using hj
    | succ i =>
      have ih := flat7 cs (fun x hx => h x (by simp [hx])) i j x u (by simpa using hi) hj
      simp only [List.flatten_cons]
      rw [List.getElem?_append_right (by omega), hc, show 7 * (i + 1) + j - 7 = 7 * i + j by omega]
      exact ih
theorem flat7_len (cs : List (List Value)) (h : ∀ x, x ∈ cs → x.length = 7) : cs.flatten.length = 7 * cs.length := by
  induction cs with
  | nil => rfl
  | cons c cs ih => simp only [List.flatten_cons, List.length_append, List.length_cons]; rw [ih (fun x hx => h x (by simp [hx])), h c (by simp)]; omega
theorem info25 : (Tryd.prog.info? 25).map (fun i => (i.zero, i.size, i.bytes)) = some (some (.agg #[.int .i64 0, .slice none 0 0, .int .i64 0, .int .i64 0, .bool false, .bool false, .slice none 0 0]), 7, 80) := by kernel_rfl
end Go.Proofs.YtjeklnbfpehbeaaDoor

/- The walk of 'Rune' of the law's own side: the rune at the beginning of a text. Condition: the text is at most 10^6 bytes. -/
namespace Go.Proofs.YtjeklnbfpehbeaaDoor
open Go.RowKit

theorem bytes_len (t : ByteArray) : (bytesOf t).length = t.size := by simp [bytesOf]
theorem bytes_lt (t : ByteArray) : ∀ b, b ∈ bytesOf t → b < 256 := by
  intro b hb
  simp only [bytesOf, List.mem_map] at hb
  obtain ⟨x, -, rfl⟩ := hb
  exact x.toNat_lt
theorem bytes_ext (t : ByteArray) (i j : Nat) : bytesOf (t.extract i j) = ((bytesOf t).take j).drop i := by
  unfold bytesOf
  rw [ByteArray.data_extract, Array.toList_extract]
  simp [List.extract, List.drop_take, List.map_drop, List.map_take]
theorem str_full {t : ByteArray} (h : t.size ≠ 0) : t.toList.isEmpty = false := by
  rw [Lib.toList_data]
  cases hl : t.data.toList with
  | nil =>
    have : t.data.toList.length = 0 := by rw [hl]; rfl
    exact absurd (by simpa using this) h
  | cons a l => rfl
theorem bytes_get {t : ByteArray} {i b : Nat} (h : (bytesOf t)[i]? = some b) (hi : i < t.size) : (t[i]'hi).toNat = b := by
  simp only [bytesOf, List.getElem?_map] at h
  rw [List.getElem?_eq_getElem (by simpa using hi)] at h
  simp at h
  rw [← h]
  rfl

/-- The rune at the beginning of a text, and how many bytes it has. -/
def RuneOf (s : List Nat) (r n : Nat) : Prop := (n = 0 ∧ ∀ c, okRune c → ¬ enc c <+: s) ∨ (0 < n ∧ okRune r ∧ enc r <+: s ∧ n = (enc r).length)

theorem enc_long {s : List Nat} {b c : Nat} (hs : s.head? = some b) (hc : c ≤ 1114111) (hp : enc c <+: s) : longN b = (enc c).length := by
  obtain ⟨d, l, h1, h2, h3⟩ := enc_first hc
  rw [h1] at hp ⊢
  obtain ⟨t, rfl⟩ := hp
  simp at hs
  subst hs
  simpa using h2
theorem rune_law {s : List Nat} {b n x y : Nat} {ok : Bool} (hs : s.head? = some b) (hn : n = longN b) (h0 : 0 < n) (hl : n ≤ s.length) (hy : ok = true → y ≤ 1114111)
    (h : ∀ c, c ≤ 1114111 → (s.take n <+: enc c ↔ ok = true ∧ x ≤ c ∧ c ≤ y)) :
    (ok = true → x ≤ y → x = y) ∧ (∀ c, c ≤ 1114111 → enc c <+: s → ok = true ∧ x ≤ c ∧ c ≤ y) ∧ (ok = true → x ≤ y → enc x <+: s ∧ n = (enc x).length) := by
  have hhd : (s.take n).head? = some b := by
    cases s with
    | nil => simp at hs
    | cons a s => cases n with
      | zero => omega
      | succ n => simpa using hs
  have hlen : (s.take n).length = n := by rw [List.length_take]; omega
  have eqs : ∀ c, c ≤ 1114111 → ok = true → x ≤ c → c ≤ y → enc c = s.take n := fun c hc h1 h2 h3 => by
    have hp := (h c hc).2 ⟨h1, h2, h3⟩
    have hq := dec_long hhd hc hp
    exact (hp.eq_of_length (by rw [hlen, hn, hq.1])).symm
  refine ⟨fun hok hxy => ?_, fun c hc hp => ?_, fun hok hxy => ?_⟩
  · have := hy hok
    exact enc_inj (by omega) this ((eqs x (by omega) hok (Nat.le_refl _) hxy).trans (eqs y this hok hxy (Nat.le_refl _)).symm)
  · have hq := enc_long hs hc hp
    refine (h c hc).1 ?_
    have : enc c = s.take n := by
      obtain ⟨t, rfl⟩ := hp
      rw [hn, hq, List.take_left']
      rfl
    rw [this]
    exact List.prefix_refl _
  · have := hy hok
    have e := eqs x (by omega) hok (Nat.le_refl _) hxy
    rw [e]
    exact ⟨List.take_prefix _ _, hlen.symm⟩

set_option maxRecDepth 100000 in
set_option maxHeartbeats 2000000 in
theorem rune_calls (w : World) (t : ByteArray) (ht : t.size ≤ 1000000) : Calls Tryd.prog 31 #[.string t] w fun e w' => ∃ r n : Nat, e = .returned (.tuple #[.int .i32 (r : Int), .int .i64 (n : Int)]) ∧ RuneOf (bytesOf t) r n ∧ Fr (fun _ => False) w w' := by
  by_cases h0 : t.size = 0
  · obtain rfl : t = ⟨#[]⟩ := by
      apply ByteArray.ext
      exact Array.eq_empty_of_size_eq_zero h0
    go_enter Tryd.func31, Tryd.ntmps31
    go_wp2_with fail
    go_ret2
    refine ⟨0, 0, rfl, .inl ⟨rfl, fun c hc hp => ?_⟩, Fr.refl _ w⟩
    have h1 := hp.length_le
    have h2 := enc_pos (c := c)
    have h3 := bytes_len ⟨#[]⟩
    omega
  have hne := str_full h0
  obtain ⟨b, hb⟩ : ∃ b, (bytesOf t)[0]? = some b := ⟨_, List.getElem?_eq_getElem (by rw [bytes_len]; omega)⟩
  have hidx : ∀ W, (Instr.index 9 (.string t) (.int .i64 0)).run Tryd.prog W = .ok (.int .u8 (b : Int)) W := path_index t 0 b hb
  have hhd : (bytesOf t).head? = some b := by rw [List.head?_eq_getElem?]; exact hb
  obtain ⟨n, hn⟩ : ∃ n, Hid (n = longN b) := ⟨_, Lib.hid rfl⟩
  have hl1 := fun W => long_calls W b
  rw [← hn.out] at hl1
  have hn4 : n ≤ 4 := by rw [hn.out]; unfold longN; (repeat' split) <;> omega
  have HH := Lib.hid hhd
  have hbt : (t[0]'(by omega)).toNat = b := bytes_get hb _
  clear hhd hb
  go_enter Tryd.func31, Tryd.ntmps31
  go_wp2_with fail
  refine (hl1 _).mono ?_
  rintro e w1 ⟨rfl, rfl⟩
  by_cases c0 : n = 0
  · subst c0
    go_wp2_with fail
    go_ret2
    refine ⟨0, 0, rfl, .inl ⟨rfl, fun c hc hp => ?_⟩, Fr.refl _ w⟩
    have h1 := enc_long HH.out hc.1 hp
    have h2 := enc_pos (c := c)
    have := hn.out
    omega
  have c0' : ¬ ((n : Int) = 0) := by omega
  by_cases c1 : t.size < n
  · have c1' : (t.size : Int) < (n : Int) := by omega
    go_wp2_with fail
    go_ret2
    refine ⟨0, 0, rfl, .inl ⟨rfl, fun c hc hp => ?_⟩, Fr.refl _ w⟩
    have h1 := enc_long HH.out hc.1 hp
    have h2 := hp.length_le
    rw [bytes_len] at h2
    have := hn.out
    omega
  have c1' : ¬ ((t.size : Int) < (n : Int)) := by omega
  have n2 : (n : Int) ≤ (t.size : Int) := by omega
  have hxs : (t.extract 0 n).size = n := by rw [ByteArray.size_extract]; omega
  have hbx : bytesOf (t.extract 0 n) = (bytesOf t).take n := by rw [bytes_ext]; rfl
  have hc := fun W => runes_calls W (t.extract 0 n) (by omega) (by omega)
  rw [hbx] at hc
  have HX := Lib.hid (And.intro hxs hbx)
  clear hxs hbx hl1 hne
  go_wp2_with fail
  refine (hc _).mono ?_
  rintro e w2 ⟨x, y, ok, rfl, hy, hiff, hf⟩
  clear hc
  have hlaw := rune_law HH.out hn.out (by omega) (by rw [bytes_len]; omega) hy hiff
  have HL := Lib.hid (And.intro hlaw (And.intro hy hf))
  clear hlaw hy hiff hf
  have no : Hid ((¬ (ok = true ∧ x = y ∧ okRune x)) → RuneOf (bytesOf t) 0 0) := Lib.hid (fun hno => .inl ⟨rfl, fun c hc hp => by
    obtain ⟨h1, h2, h3⟩ := HL.out.1.2.1 c hc.1 hp
    have h4 := HL.out.1.1 h1 (by omega)
    have h5 : c = x := by omega
    rw [h5] at hc
    exact hno ⟨h1, h4, hc⟩⟩)
  cases ok with
  | false =>
    go_wp2_with fail
    go_ret2
    exact ⟨0, 0, rfl, no.out (by simp), HL.out.2.2⟩
  | true =>
    by_cases hxy : x = y
    · subst hxy
      by_cases hv : okRune x
      · have hv2 := fun W => valid_ok W hv
        go_wp2_with fail
        refine (hv2 _).mono ?_
        rintro e w3 ⟨rfl, rfl⟩
        go_wp2_with fail
        go_ret2
        have h5 := HL.out.1.2.2 trivial (Nat.le_refl _)
        exact ⟨x, n, rfl, .inr ⟨by omega, hv, h5⟩, HL.out.2.2⟩
      · have hv2 : ∀ W, Calls Tryd.prog 24 #[.int .i32 (x : Int)] W fun e w' => e = .returned (.bool false) ∧ W = w' := fun W => by
          have := valid_spec W (x : Int)
          rw [decide_eq_false (by unfold okRune at hv; omega)] at this
          exact this
        go_wp2_with fail
        refine (hv2 _).mono ?_
        rintro e w3 ⟨rfl, rfl⟩
        go_wp2_with fail
        go_ret2
        exact ⟨0, 0, rfl, no.out (fun h => hv h.2.2), HL.out.2.2⟩
    · have hxy' : ¬ ((x : Int) = (y : Int)) := by omega
      go_wp2_with fail
      go_ret2
      exact ⟨0, 0, rfl, no.out (fun h => hxy h.2.1), HL.out.2.2⟩
end Go.Proofs.YtjeklnbfpehbeaaDoor
