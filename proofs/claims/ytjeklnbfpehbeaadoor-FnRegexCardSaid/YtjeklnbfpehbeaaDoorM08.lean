/- The walk of package utf8's NewSequencesPrealloc: a range of runes becomes the sequences of its parts. Condition: the range's ends have bytes. -/
import Derived.Test.YtjeklnbfpehbeaaDoorM07
set_option linter.unusedVariables false
/- The walk of package utf8's NewSequencesPrealloc: a range of runes becomes the sequences of its parts. Condition: the range's ends have bytes. -/
namespace Go.Proofs.YtjeklnbfpehbeaaDoor
open Go.RowKit

theorem own_form2 {w : World} {base n : Nat} {e : TypeId} {size : Nat} {v : Value} {xs : List Value} (h : w.ownsRow base e size v n xs) : ∃ A c, v = .slice A n c ∧ n ≤ c ∧ (A = none → n = 0 ∧ c = 0) ∧ w.ownsRow base e size (.slice A 0 c) 0 [] := by
  rcases h.2 with ⟨rfl, rfl⟩ | ⟨g, cap, cur, rfl, hb, hg, h1, h2, h3, h4⟩
  · exact ⟨none, 0, rfl, Nat.le_refl _, fun _ => ⟨rfl, rfl⟩, World.ownsRow_nil _ _ _ _⟩
  · exact ⟨_, cap, rfl, h1, (fun e => by cases e), ⟨by simp, .inr ⟨g, cap, cur, rfl, hb, hg, Nat.zero_le _, h2, h3, by simp⟩⟩⟩
theorem sl95 (A : Option Addr) (n c : Nat) (h : n ≤ c) (hA : A = none → n = 0 ∧ c = 0) (W : World) : (Instr.slice 95 (.slice A n c) none (some (.int .i64 0)) none).run Tryd.prog W = .ok (.slice A 0 c) W := by
  cases A with
  | none => obtain ⟨rfl, rfl⟩ := hA rfl; kernel_rfl
  | some a => simp [Instr.slice, go_sem]
theorem sl97 (A : Option Addr) (n c : Nat) (h : n ≤ c) (hA : A = none → n = 0 ∧ c = 0) (W : World) : (Instr.slice 97 (.slice A n c) none (some (.int .i64 0)) none).run Tryd.prog W = .ok (.slice A 0 c) W := by
  cases A with
  | none => obtain ⟨rfl, rfl⟩ := hA rfl; kernel_rfl
  | some a => simp [Instr.slice, go_sem]

/-- What it hands back. -/
def NspPost (w w' : World) (B a b sb eb : Nat) (e : Ending) : Prop :=
  ∃ (v1 v2 : Value) (cs ce : List Nat), e = .returned (.tuple #[v1, v2, .nilIface]) ∧ Rows_ w' B v1 (parts a b) ∧ w'.ownsRow B 160 2 v2 0 [] ∧ Blk w' sb (u8s cs) 5 ∧ Blk w' eb (u8s ce) 5 ∧ cs.length = 4 ∧ ce.length = 4 ∧ Fr (UT w B) w w'

/-- The loop's state: a range at hand, or none any more. -/
def At (w0 wr : World) (B rb sb eb a b : Nat) (rv sk : Value) (g : Nat) : Prop :=
  ∃ (L T : List (Nat × Nat)) (x y : Nat), UW w0 wr B rb sb eb rv sk L T x y ∧ ((Todo a b L ((x, y) :: T.reverse) ∧ load ((x, y) :: T.reverse) < g) ∨ (x = 65535 ∧ y = 0 ∧ T = [] ∧ L = parts a b ∧ 0 < g))
def In (w0 wr : World) (B rb sb eb a b : Nat) (rv sk : Value) (g G : Nat) : Prop :=
  ∃ (L T : List (Nat × Nat)) (x y : Nat), UW w0 wr B rb sb eb rv sk L T x y ∧ Todo a b L ((x, y) :: T.reverse) ∧ load ((x, y) :: T.reverse) < g ∧ g ≤ G

theorem pop_at {w0 w : World} {B rb sb eb a b x y : Nat} {rv sk : Value} {L T : List (Nat × Nat)} (hab : okRange a b) (h : UW w0 w B rb sb eb rv sk L T x y) (ht : Todo a b L T.reverse) :
    ∃ p q : Nat, Calls Tryd.prog 68 #[sk] w fun e w' => ∃ sk', e = .returned (.tuple #[sk', .agg #[.int .i32 (p : Int), .int .i32 (q : Int)]]) ∧ Blk w' rb [.int .i32 (x : Int), .int .i32 (y : Int)] 160 ∧ At w0 ((w'.setCell ⟨rb, 0, none⟩ (.int .i32 (p : Int))).setCell ⟨rb, 1, none⟩ (.int .i32 (q : Int))) B rb sb eb a b rv sk' (load T.reverse + 1) := by
  have hTl : T.length ≤ 1000000000 := by have := ht.len hab; simp at this; omega
  rcases List.eq_nil_or_concat T with rfl | ⟨T', q, rfl⟩
  · refine ⟨65535, 0, (rpop_nil h.stk h.nils).mono ?_⟩
    rintro e w' ⟨rfl, hf⟩
    have h1 := h.drop hf
    exact ⟨sk, rfl, h1.cur, L, [], 65535, 0, (h1.setX 65535).setY 0, .inr ⟨rfl, rfl, rfl, by have := ht.eq; simpa using this, by omega⟩⟩
  · obtain ⟨p, q⟩ := q
    rw [List.concat_eq_append] at *
    refine ⟨p, q, (rpop_calls h.stk (by simp at hTl; omega)).mono ?_⟩
    rintro e w' ⟨sk', rfl, ho, hf, hn⟩
    have h1 := h.popped hf ho hn
    refine ⟨sk', rfl, h1.cur, L, T', p, q, (h1.setX p).setY q, .inl ⟨by simpa using ht, by simp⟩⟩

set_option maxRecDepth 100000 in
set_option maxHeartbeats 40000000 in
theorem nsp_calls {w : World} {B a b n1 n2 sb eb : Nat} {v1 v2 : Value} {xs1 xs2 : List Value} {cs ce : List Nat} (hab : okRange a b) (hB : B ≤ w.heap.size) (h1 : w.ownsRow B 135 1 v1 n1 xs1) (h2 : w.ownsRow B 160 2 v2 n2 xs2) (hs : Blk w sb (u8s cs) 5) (he : Blk w eb (u8s ce) 5) (ls : cs.length = 4) (le : ce.length = 4) (hne : sb ≠ eb) (hsB : B ≤ sb) (heB : B ≤ eb) (hn : Nils w) (h9 : 9 < B) :
    Calls Tryd.prog 49 #[.int .i32 (a : Int), .int .i32 (b : Int), v1, v2, .slice (some ⟨sb, 0, none⟩) 4 4, .slice (some ⟨eb, 0, none⟩) 4 4] w fun e w' => NspPost w w' B a b sb eb e := by
  obtain ⟨A1, c1, rfl, hc1, hA1, o1⟩ := own_form2 h1
  obtain ⟨A2, c2, rfl, hc2, hA2, o2⟩ := own_form2 h2
  have s1 := sl95 A1 n1 c1 hc1 hA1
  have s2 := sl97 A2 n2 c2 hc2 hA2
  have hpush := rpush_calls (T := []) a b o2 hB (by simp)
  clear h1 h2
  go_enter Tryd.func49, Tryd.ntmps49
  go_wp2_with fail
  go_step3
  go_wp2_with fail
  refine hpush.mono ?_
  rintro e w1 ⟨k1, rfl, ho1, hf1, hn1⟩
  have hpop := rpop_calls (T := []) ho1 (by simp)
  go_wp2_with fail
  refine hpop.mono ?_
  rintro e w2 ⟨k2, rfl, ho2, hf2, hn2⟩
  go_wp2_with fail
  go_step3
  go_wp2_with fail
  have hw2 : w.heap.size ≤ w2.heap.size := Nat.le_trans hf1.size hf2.size
  have F01 : Fr (fun k => (Value.slice A2 0 c2).ownBlock = some k) w w2 := hf1.trans hf2 (fun _ _ h => h.elim)
  have hU0 : UW w (w2.alloc (.cells #[.int .i32 (a : Int), .int .i32 (b : Int)] 160)) B w2.heap.size sb eb (.slice A1 0 c1) k2 [] [] a b := by
    have n : ∀ {k : Nat} {cs : List Value} {t : TypeId}, Blk w k cs t → t ≠ 160 → ¬ ((Value.slice A2 0 c2).ownBlock = some k) := fun hk ht => own_ne_blk o2 hk (fun e => ht e.symm)
    have hge : ∀ k, (Value.slice A2 0 c2).ownBlock = some k → B ≤ k := fun k hk => (own_lt' o2 hk).1
    have hU := F01.alloc (.cells #[.int .i32 (a : Int), .int .i32 (b : Int)] 160)
    refine ⟨⟨[], own_fr o1 hU (fun k hk e => own_ne_own o1 o2 (by decide) hk e), fun i q h => by simp at h⟩, ho2.alloc _, Blk.new w2 [_, _] 160, ⟨cs, ls, hs.fr hU (n hs (by decide))⟩, ⟨ce, le, he.fr hU (n he (by decide))⟩, hn.fr hU (fun e => by have := hge _ e; omega) (fun e => by have := hge _ e; omega), ?_, ?_, hB, hw2, hsB, heB, h9⟩
    · refine (hU.mono fun k hk e => ?_)
      rcases o2.2 with ⟨e0, _⟩ | ⟨g, cap, cur, e0, hb, hg, _⟩
      · rw [e0] at e; simp [Value.ownBlock] at e
      · rw [e0] at e
        simp [Value.ownBlock] at e
        subst e
        exact ⟨hb, _, _, hg, .inr (.inl rfl)⟩
    · intro e
      have := (own_lt' ho2 e).2
      omega
  clear hpush hpop ho1 ho2 hf1 hf2 hn1 hn2 s1 s2 o1 o2 hs he hn F01
  generalize hrb : w2.heap.size = rb at *
  go_loopg [15, 18] (load [(a, b)] + 1) (fun g rv sk wr => At w wr B rb sb eb a b rv sk g)
  case atStart => exact ⟨[], [], a, b, hU0, .inl ⟨Todo.start hab, by simp⟩⟩
  case round =>
    clear hU0
    obtain ⟨L, T, x, y, hu, ⟨htd, hlt⟩ | ⟨rfl, rfl, rfl, rfl, hlt⟩⟩ := hrel
    · have hok := htd.ok (x, y) (by simp)
      have hxy : x ≤ y := hok.2.2
      have c0 := hu.cur.cell 0 rfl
      have c1' := hu.cur.cell 1 rfl
      have s0 := hu.nils.s0
      have s1 := hu.nils.s1
      have q1 := neq160_t (x : Int) (y : Int) (by omega)
      go_wp2_with fail
      go_step3
      go_wp2_with fail
      go_step3
      go_wp2_with fail
      clear c0 c1' s0 s1 q1 hxy
      go_loopg [15, 18] (load ((x, y) :: T.reverse) + 1) (fun g rv sk wr => In w wr B rb sb eb a b rv sk g gk)
      case atStart => exact ⟨L, T, x, y, hu, htd, by omega, by omega⟩
      case round =>
        clear hu htd hlt hok
        obtain ⟨L, T, x, y, hu, htd, hlt, hG⟩ := hrel
        have hok : okRange x y := htd.ok (x, y) (by simp)
        have hxy : x ≤ y := hok.2.2
        have hxm := hok.1.1
        have hym := hok.2.1.1
        have hTl : T.length ≤ 1000000000 := by have := htd.len hab; simp at this; omega
        have hBw : ∀ {w' : World} {F : Nat → Prop}, Fr F w w' → B ≤ w'.heap.size := fun h => Nat.le_trans hB h.size
        by_cases k0 : x < 57344 ∧ 55295 < y
        · as_aux_lemma =>
            have hcut : cut x y = some (55295, 57344) := if_pos k0
            obtain ⟨hsp, hld⟩ := htd.split hcut
            have q0 := cut_calls hu.cur k0.1 k0.2
            have q1 := neq160_t (x : Int) 55295 (by omega)
            go_wp2_with fail
            refine q0.mono ?_
            rintro e w1 ⟨rfl, hf1⟩
            have hu1 := hu.drop hf1
            clear q0
            have s0 : ∀ X Y, ((w1.alloc X).alloc Y).cell? ⟨8, 0, none⟩ = some (.int .i32 65535) := fun X Y => (((Fr.refl (fun _ => False) w1).alloc X).alloc Y).cell hu1.nils.s0 (fun h => h)
            have s1 : ∀ X Y, ((w1.alloc X).alloc Y).cell? ⟨8, 1, none⟩ = some (.int .i32 0) := fun X Y => (((Fr.refl (fun _ => False) w1).alloc X).alloc Y).cell hu1.nils.s1 (fun h => h)
            have hpush : ∀ X Y, Calls Tryd.prog 67 #[u18, .agg #[.int .i32 57344, .int .i32 (y : Int)]] ((w1.alloc X).alloc Y) _ := fun X Y => rpush_calls (T := T) 57344 y ((hu1.stk.alloc X).alloc Y) (by simp; exact Nat.le_trans (hBw hu1.fr) (by omega)) hTl
            go_wp2_with fail
            refine (hpush _ _).mono ?_
            rintro e w3 ⟨sk', rfl, ho3, hf3, hn3⟩
            have hal : Fr (fun _ => False) w1 ((w1.alloc (.cells #[.int .i32 (x : Int), .int .i32 55295] 160)).alloc (.cells #[.int .i32 57344, .int .i32 (y : Int)] 160)) := ((Fr.refl _ w1).alloc _).alloc _
            have hu2 := hu1.drop hal
            have hu3 := hu2.pushed (q := (57344, y)) hf3 ho3 hn3
            have hb20 : Blk w3 w1.heap.size [.int .i32 (x : Int), .int .i32 55295] 160 := by
              refine ((Blk.new w1 [_, _] 160).alloc _).fr hf3 (fun e => ?_)
              have := (own_lt' hu1.stk e).2
              omega
            have hu4 := hu3.setX x
            have hu5 := hu4.setY 55295
            have b0 := hb20.cell 0 rfl
            have b1 := (hb20.set_ne (a := ⟨rb, 0, none⟩) (show w1.heap.size ≠ rb by have := hu1.cur.lt; omega) (.int .i32 (x : Int))).cell 1 rfl
            have x0 := hu3.cur.cell 0 rfl
            have f0 := hu3.cur.frz 0
            have x1 := hu4.cur.cell 1 rfl
            have f1 := hu4.cur.frz 1
            clear hpush s0 s1 hu hu1 hu2 hu3 hu4 hb20 hal ho3 hf3 hn3 hf1 q1
            go_wp2_with fail
            go_roundg (load ((x, 55295) :: (57344, y) :: T.reverse) + 1)
            case measure => omega
            case rel => exact ⟨L, T ++ [(57344, y)], x, 55295, hu5, by simpa using hsp, by simp, by omega⟩
        · have hx : 57344 ≤ x ∨ y ≤ 55295 := by omega
          have q0 := keep_calls hu.cur hu.nils hx
          have q1 := neq160_f
          go_wp2_with fail
          refine q0.mono ?_
          rintro e w1 ⟨rfl, hf1⟩
          have hu1 := hu.drop hf1
          clear q0
          have s0 : ∀ X Y, ((w1.alloc X).alloc Y).cell? ⟨8, 0, none⟩ = some (.int .i32 65535) := fun X Y => (((Fr.refl (fun _ => False) w1).alloc X).alloc Y).cell hu1.nils.s0 (fun h => h)
          have s1 : ∀ X Y, ((w1.alloc X).alloc Y).cell? ⟨8, 1, none⟩ = some (.int .i32 0) := fun X Y => (((Fr.refl (fun _ => False) w1).alloc X).alloc Y).cell hu1.nils.s1 (fun h => h)
          have hal : Fr (fun _ => False) w1 ((w1.alloc (.cells #[.int .i32 65535, .int .i32 0] 160)).alloc (.cells #[.int .i32 65535, .int .i32 0] 160)) := ((Fr.refl _ w1).alloc _).alloc _
          have hu2 := hu1.drop hal
          have q2 := valid_calls hu2.cur hxy
          go_wp2_with fail
          refine q2.mono ?_
          rintro e w3 ⟨rfl, n, rfl⟩
          have hu3 := hu2.drop ((Fr.refl _ _).drewN n)
          clear q1 q2 s0 s1 hal hu hu1 hu2 hf1
          go_wp2_with fail
          go_loopg [18, 22, 23] 4 (fun g sk i mx wq => ∃ k : Nat, 1 ≤ k ∧ k ≤ 4 ∧ g = 4 - k + 1 ∧ i = .int .i64 (k : Int) ∧ sk = u18 ∧ UW w wq B rb sb eb u15 u18 L T x y ∧ (2 ≤ k → ¬ (x ≤ 127 ∧ 127 < y)) ∧ (3 ≤ k → ¬ (x ≤ 2047 ∧ 2047 < y)) ∧ (4 ≤ k → ¬ (x ≤ 65535 ∧ 65535 < y)))
          case atStart => exact ⟨1, by omega, by omega, rfl, rfl, rfl, hu3, by omega, by omega, by omega⟩
          case round =>
            clear hu3
            obtain ⟨k, hk1, hk4, rfl, rfl, rfl, hu, n1, n2, n3⟩ := hrel
            by_cases h4 : k = 4
            · subst h4
              have qa := ascii_calls hu.cur hu.nils hxy
              go_wp2_with fail
              refine qa.mono ?_
              rintro e w1 ⟨rfl, hf1⟩
              have hu1 := hu.drop hf1
              clear qa hf1 hu
              by_cases hy : y ≤ 127
              · as_aux_lemma =>
                  rw [if_pos hy]
                  have hcut : cut x y = none := by unfold cut; rw [if_neg k0, if_neg (by omega), if_neg (by omega), if_neg (by omega), if_pos hy]
                  obtain ⟨hlf, hld⟩ := htd.leaf hcut
                  have hLl := htd.len hab
                  have q1 := neq168_t (x : Int) (y : Int) (by omega)
                  have s0 : ∀ X, (w1.alloc X).cell? ⟨9, 0, none⟩ = some (.int .u8 255) := fun X => ((Fr.refl (fun _ => False) w1).alloc X).cell hu1.nils.r0 (fun h => h)
                  have s1 : ∀ X, (w1.alloc X).cell? ⟨9, 1, none⟩ = some (.int .u8 0) := fun X => ((Fr.refl (fun _ => False) w1).alloc X).cell hu1.nils.r1 (fun h => h)
                  obtain ⟨W4, hW4⟩ : ∃ W4, W4 = (w1.alloc (.cells #[.int .u8 (x : Int), .int .u8 (y : Int)] 168)).alloc (.cells #[.int .u8 (x : Int), .int .u8 (y : Int)] 168) := ⟨_, rfl⟩
                  have hz4 : W4.heap.size = w1.heap.size + 1 + 1 := by rw [hW4]; simp
                  have hal : Fr (fun _ => False) w1 W4 := by rw [hW4]; exact ((Fr.refl _ w1).alloc _).alloc _
                  have hu4 := hu1.drop hal
                  have hsq : SeqAt W4 (.slice (some ⟨w1.heap.size + 1, 0, none⟩) 1 1) ((enc x).zip (enc y)) := by
                    have e1 : enc x = [x] := if_pos (by omega)
                    have e2 : enc y = [y] := if_pos (by omega)
                    rw [e1, e2]
                    refine seq_fresh (b := w1.heap.size + 1) (cs := [.int .u8 (x : Int), .int .u8 (y : Int)]) ?_ ?_ 1 rfl
                    · rw [hW4]; exact Blk.newAt _ [_, _] 168 _ (by simp)
                    · intro i r hr
                      have hi : i = 0 := by
                        have := (List.getElem?_eq_some_iff.1 hr).1
                        simp at this; omega
                      subst hi
                      simp at hr
                      subst hr
                      exact ⟨by show x < 256; omega, by show y < 256; omega, rfl, rfl⟩
                  obtain ⟨vs, hown, hvs⟩ := hu4.rows
                  have hvl : vs.length = L.length := by simpa using hown.1
                  have hBs : B ≤ W4.heap.size := hBw hu4.fr
                  have HH := Lib.hid (And.intro hu4 (And.intro hlf (And.intro hsq (And.intro hvs (And.intro hvl hab)))))
                  clear hu1 hu4 hlf hsq hvs hvl hal htd n1 n2 n3 hcut hok
                  simp only [List.length_cons] at hLl
                  subst hW4
                  go_wp2_with (first
                    | (at_builtin; refine app1b ((w1.alloc (.cells #[.int .u8 (x : Int), .int .u8 (y : Int)] 168)).alloc (.cells #[.int .u8 (x : Int), .int .u8 (y : Int)] 168)) (w1.heap.size + 1 + 1) hz4 rfl _ _ 95 rfl B 135 (.slice none 0 0) 1 24 Tryd.underlying95 (by kernel_rfl) rfl (by decide) u15 L.length vs [.slice (some ⟨w1.heap.size + 1, 0, none⟩) 1 1] rfl rfl hown rfl (by simp [Value.oneCell']) (by omega) (by decide) hBs ?_; intro v2 w5 ho2 hf2 hn2; obtain ⟨hu4, hlf, hsq, hvs, hvl, hab⟩ := HH.out; have hu5 := hu4.rowed (q := (x, y)) hvs hvl hown hsq hf2 ho2; obtain ⟨p, q, hpop⟩ := pop_at hab hu5 hlf; clear HH hu4 hlf hsq hvs hu5 ho2 hf2 hn2 hown)
                    | fail)
                  refine hpop.mono ?_
                  rintro e w6 ⟨sk', rfl, hbk, hat⟩
                  have x2 := hbk.cell 0 rfl
                  have f2 := hbk.frz 0
                  have x3 := (hbk.set 0 (.int .i32 (p : Int))).cell 1 rfl
                  have f3 := (hbk.set 0 (.int .i32 (p : Int))).frz 1
                  clear hpop hbk
                  go_wp2_with fail
                  rw [Exit.noGoto_exit]
                  go_wp2_with fail
                  go_roundg (load T.reverse + 1)
                  case measure => omega
                  case rel => exact hat
              · rw [if_neg hy]
                have q1 := neq168_f
                have s0 : ∀ X, (w1.alloc X).cell? ⟨9, 0, none⟩ = some (.int .u8 255) := fun X => ((Fr.refl (fun _ => False) w1).alloc X).cell hu1.nils.r0 (fun h => h)
                have s1 : ∀ X, (w1.alloc X).cell? ⟨9, 1, none⟩ = some (.int .u8 0) := fun X => ((Fr.refl (fun _ => False) w1).alloc X).cell hu1.nils.r1 (fun h => h)
                have hu2 := hu1.drop ((Fr.refl _ w1).alloc (.cells #[.int .u8 255, .int .u8 0] 168))
                go_wp2_with fail
                clear hu1 q1 s0 s1
                go_loopg [18, 25, 26] 4 (fun g sk i mx wq => ∃ k : Nat, 1 ≤ k ∧ k ≤ 4 ∧ g = 4 - k + 1 ∧ i = .int .u64 (k : Int) ∧ sk = u18 ∧ UW w wq B rb sb eb u15 u18 L T x y ∧ (2 ≤ k → ¬ (x / 64 ≠ y / 64 ∧ x % 64 ≠ 0) ∧ ¬ (x / 64 ≠ y / 64 ∧ y % 64 ≠ 63)) ∧ (3 ≤ k → ¬ (x / 4096 ≠ y / 4096 ∧ x % 4096 ≠ 0) ∧ ¬ (x / 4096 ≠ y / 4096 ∧ y % 4096 ≠ 4095)) ∧ (4 ≤ k → ¬ (x / 262144 ≠ y / 262144 ∧ x % 262144 ≠ 0) ∧ ¬ (x / 262144 ≠ y / 262144 ∧ y % 262144 ≠ 262143)))
                case atStart => exact ⟨1, by omega, by omega, rfl, rfl, rfl, hu2, by omega, by omega, by omega⟩
                case round =>
                  clear hu2
                  obtain ⟨k, hk1, hk4, rfl, rfl, rfl, hu, m1, m2, m3⟩ := hrel
                  have hc4 : k = 1 ∨ k = 2 ∨ k = 3 ∨ k = 4 := by omega
                  have x0 := hu.cur.cell 0 rfl
                  have x1 := hu.cur.cell 1 rfl
                  rcases hc4 with rfl | rfl | rfl | rfl
                  · as_aux_lemma =>
                      obtain ⟨ax, lx, ox⟩ := msk6 (x := x) (by omega)
                      obtain ⟨ay, ly, -⟩ := msk6 (x := y) (by omega)
                      obtain ⟨X, hX⟩ : ∃ X, X = 64 * (x / 64) := ⟨_, rfl⟩
                      obtain ⟨Y, hY⟩ : ∃ Y, Y = 64 * (y / 64) := ⟨_, rfl⟩
                      obtain ⟨u, hu1⟩ : ∃ u, u = x % 64 := ⟨_, rfl⟩
                      obtain ⟨v, hv1⟩ : ∃ v, v = y % 64 := ⟨_, rfl⟩
                      rw [← hX] at ax ox
                      rw [← hY] at ay
                      rw [← hu1] at lx
                      rw [← hv1] at ly
                      obtain ⟨Z, hZ⟩ : ∃ Z, Z = X + 63 := ⟨_, rfl⟩
                      rw [← hZ] at ox
                      have ax' : bits .and .i32 (x : Int) (bits .xor .i32 (if IntKind.i32.signed = true then -1 else IntKind.i32.max) 63) = (X : Int) := ax
                      have ay' : bits .and .i32 (y : Int) (bits .xor .i32 (if IntKind.i32.signed = true then -1 else IntKind.i32.max) 63) = (Y : Int) := ay
                      have A := Lib.hid (And.intro hX (And.intro hY (And.intro hu1 (And.intro hv1 hZ))))
                      have hZb : Z < 2097152 := by omega
                      have hYb : Y < 2097152 := by omega
                      clear hX hY hu1 hv1 hZ
                      by_cases d1 : X = Y
                      · have e1 : ((X : Int) != (Y : Int)) = false := by subst d1; simp
                        go_wp2_with fail
                        go_roundg (4 - (1 + 1) + 1)
                        case measure => omega
                        case rel =>
                          obtain ⟨hX, hY, hu1, hv1, hZ⟩ := A.out
                          exact ⟨2, by omega, by omega, rfl, rfl, rfl, hu, by omega, by omega, by omega⟩
                      · have e1 : ((X : Int) != (Y : Int)) = true := by rw [bne_iff_ne]; omega
                        by_cases d2 : u = 0
                        · have e2 : ((u : Int) != 0) = false := by subst d2; rfl
                          by_cases d3 : v = 63
                          · have e3 : ((v : Int) != 63) = false := by subst d3; rfl
                            go_wp2_with fail
                            go_roundg (4 - (1 + 1) + 1)
                            case measure => omega
                            case rel =>
                              obtain ⟨hX, hY, hu1, hv1, hZ⟩ := A.out
                              exact ⟨2, by omega, by omega, rfl, rfl, rfl, hu, by omega, by omega, by omega⟩
                          · have e3 : ((v : Int) != 63) = true := by rw [bne_iff_ne]; omega
                            have hY1 : 1 ≤ Y := by have := A.out; omega
                            have hcut : cut x y = some (Y - 1, Y) := by
                              obtain ⟨hX, hY, hu1, hv1, hZ⟩ := A.out
                              unfold cut; rw [if_neg k0, if_neg (n1 (by omega)), if_neg (n2 (by omega)), if_neg (n3 (by omega)), if_neg hy, if_neg (by omega), if_pos (by omega), hY]
                            obtain ⟨hsp, hld⟩ := htd.split hcut
                            have hpush := rpush_calls (T := T) Y y hu.stk (hBw hu.fr) hTl
                            go_wp2_with fail
                            refine hpush.mono ?_
                            rintro e w3 ⟨sk', rfl, ho3, hf3, hn3⟩
                            have hu3 := hu.pushed (q := (Y, y)) hf3 ho3 hn3
                            have hu5 := hu3.setY (Y - 1)
                            rw [show ((Y - 1 : Nat) : Int) = (Y : Int) - 1 by omega] at hu5
                            have x2 := hu3.cur.cell 1 rfl
                            have f2 := hu3.cur.frz 1
                            clear hpush hu hu3 ho3 hf3 hn3
                            go_wp2_with fail
                            go_roundg (load ((x, Y - 1) :: (Y, y) :: T.reverse) + 1)
                            case measure => omega
                            case rel => exact ⟨L, T ++ [(Y, y)], x, Y - 1, hu5, by simpa using hsp, by simp, by omega⟩
                        · have e2 : ((u : Int) != 0) = true := by rw [bne_iff_ne]; omega
                          have hcut : cut x y = some (Z, Z + 1) := by
                            obtain ⟨hX, hY, hu1, hv1, hZ⟩ := A.out
                            unfold cut; rw [if_neg k0, if_neg (n1 (by omega)), if_neg (n2 (by omega)), if_neg (n3 (by omega)), if_neg hy, if_pos (by omega), hZ, hX]
                          obtain ⟨hsp, hld⟩ := htd.split hcut
                          have hpush : Calls Tryd.prog 67 #[u18, .agg #[.int .i32 ((Z : Int) + 1), .int .i32 (y : Int)]] wr _ := rpush_calls (T := T) (Z + 1) y hu.stk (hBw hu.fr) hTl
                          go_wp2_with fail
                          refine hpush.mono ?_
                          rintro e w3 ⟨sk', rfl, ho3, hf3, hn3⟩
                          have hu3 := hu.pushed (q := (Z + 1, y)) hf3 ho3 hn3
                          have hu5 := hu3.setY Z
                          have x2 := hu3.cur.cell 1 rfl
                          have f2 := hu3.cur.frz 1
                          have x3 := hu3.cur.cell 0 rfl
                          clear hpush hu hu3 ho3 hf3 hn3
                          go_wp2_with fail
                          go_roundg (load ((x, Z) :: (Z + 1, y) :: T.reverse) + 1)
                          case measure => omega
                          case rel => exact ⟨L, T ++ [(Z + 1, y)], x, Z, hu5, by simpa using hsp, by simp, by omega⟩
                  · as_aux_lemma =>
                      obtain ⟨ax, lx, ox⟩ := msk12 (x := x) (by omega)
                      obtain ⟨ay, ly, -⟩ := msk12 (x := y) (by omega)
                      obtain ⟨X, hX⟩ : ∃ X, X = 4096 * (x / 4096) := ⟨_, rfl⟩
                      obtain ⟨Y, hY⟩ : ∃ Y, Y = 4096 * (y / 4096) := ⟨_, rfl⟩
                      obtain ⟨u, hu1⟩ : ∃ u, u = x % 4096 := ⟨_, rfl⟩
                      obtain ⟨v, hv1⟩ : ∃ v, v = y % 4096 := ⟨_, rfl⟩
                      rw [← hX] at ax ox
                      rw [← hY] at ay
                      rw [← hu1] at lx
                      rw [← hv1] at ly
                      obtain ⟨Z, hZ⟩ : ∃ Z, Z = X + 4095 := ⟨_, rfl⟩
                      rw [← hZ] at ox
                      have ax' : bits .and .i32 (x : Int) (bits .xor .i32 (if IntKind.i32.signed = true then -1 else IntKind.i32.max) 4095) = (X : Int) := ax
                      have ay' : bits .and .i32 (y : Int) (bits .xor .i32 (if IntKind.i32.signed = true then -1 else IntKind.i32.max) 4095) = (Y : Int) := ay
                      have A := Lib.hid (And.intro hX (And.intro hY (And.intro hu1 (And.intro hv1 hZ))))
                      have hZb : Z < 2097152 := by omega
                      have hYb : Y < 2097152 := by omega
                      clear hX hY hu1 hv1 hZ
                      by_cases d1 : X = Y
                      · have e1 : ((X : Int) != (Y : Int)) = false := by subst d1; simp
                        go_wp2_with fail
                        go_roundg (4 - (2 + 1) + 1)
                        case measure => omega
                        case rel =>
                          obtain ⟨hX, hY, hu1, hv1, hZ⟩ := A.out
                          exact ⟨3, by omega, by omega, rfl, rfl, rfl, hu, by omega, by omega, by omega⟩
                      · have e1 : ((X : Int) != (Y : Int)) = true := by rw [bne_iff_ne]; omega
                        by_cases d2 : u = 0
                        · have e2 : ((u : Int) != 0) = false := by subst d2; rfl
                          by_cases d3 : v = 4095
                          · have e3 : ((v : Int) != 4095) = false := by subst d3; rfl
                            go_wp2_with fail
                            go_roundg (4 - (2 + 1) + 1)
                            case measure => omega
                            case rel =>
                              obtain ⟨hX, hY, hu1, hv1, hZ⟩ := A.out
                              exact ⟨3, by omega, by omega, rfl, rfl, rfl, hu, by omega, by omega, by omega⟩
                          · have e3 : ((v : Int) != 4095) = true := by rw [bne_iff_ne]; omega
                            have hY1 : 1 ≤ Y := by have := A.out; omega
                            have hcut : cut x y = some (Y - 1, Y) := by
                              obtain ⟨hX, hY, hu1, hv1, hZ⟩ := A.out
                              unfold cut; rw [if_neg k0, if_neg (n1 (by omega)), if_neg (n2 (by omega)), if_neg (n3 (by omega)), if_neg hy, if_neg (m1 (by omega)).1, if_neg (m1 (by omega)).2, if_neg (by omega), if_pos (by omega), hY]
                            obtain ⟨hsp, hld⟩ := htd.split hcut
                            have hpush := rpush_calls (T := T) Y y hu.stk (hBw hu.fr) hTl
                            go_wp2_with fail
                            refine hpush.mono ?_
                            rintro e w3 ⟨sk', rfl, ho3, hf3, hn3⟩
                            have hu3 := hu.pushed (q := (Y, y)) hf3 ho3 hn3
                            have hu5 := hu3.setY (Y - 1)
                            rw [show ((Y - 1 : Nat) : Int) = (Y : Int) - 1 by omega] at hu5
                            have x2 := hu3.cur.cell 1 rfl
                            have f2 := hu3.cur.frz 1
                            clear hpush hu hu3 ho3 hf3 hn3
                            go_wp2_with fail
                            go_roundg (load ((x, Y - 1) :: (Y, y) :: T.reverse) + 1)
                            case measure => omega
                            case rel => exact ⟨L, T ++ [(Y, y)], x, Y - 1, hu5, by simpa using hsp, by simp, by omega⟩
                        · have e2 : ((u : Int) != 0) = true := by rw [bne_iff_ne]; omega
                          have hcut : cut x y = some (Z, Z + 1) := by
                            obtain ⟨hX, hY, hu1, hv1, hZ⟩ := A.out
                            unfold cut; rw [if_neg k0, if_neg (n1 (by omega)), if_neg (n2 (by omega)), if_neg (n3 (by omega)), if_neg hy, if_neg (m1 (by omega)).1, if_neg (m1 (by omega)).2, if_pos (by omega), hZ, hX]
                          obtain ⟨hsp, hld⟩ := htd.split hcut
                          have hpush : Calls Tryd.prog 67 #[u18, .agg #[.int .i32 ((Z : Int) + 1), .int .i32 (y : Int)]] wr _ := rpush_calls (T := T) (Z + 1) y hu.stk (hBw hu.fr) hTl
                          go_wp2_with fail
                          refine hpush.mono ?_
                          rintro e w3 ⟨sk', rfl, ho3, hf3, hn3⟩
                          have hu3 := hu.pushed (q := (Z + 1, y)) hf3 ho3 hn3
                          have hu5 := hu3.setY Z
                          have x2 := hu3.cur.cell 1 rfl
                          have f2 := hu3.cur.frz 1
                          have x3 := hu3.cur.cell 0 rfl
                          clear hpush hu hu3 ho3 hf3 hn3
                          go_wp2_with fail
                          go_roundg (load ((x, Z) :: (Z + 1, y) :: T.reverse) + 1)
                          case measure => omega
                          case rel => exact ⟨L, T ++ [(Z + 1, y)], x, Z, hu5, by simpa using hsp, by simp, by omega⟩
                  · as_aux_lemma =>
                      obtain ⟨ax, lx, ox⟩ := msk18 (x := x) (by omega)
                      obtain ⟨ay, ly, -⟩ := msk18 (x := y) (by omega)
                      obtain ⟨X, hX⟩ : ∃ X, X = 262144 * (x / 262144) := ⟨_, rfl⟩
                      obtain ⟨Y, hY⟩ : ∃ Y, Y = 262144 * (y / 262144) := ⟨_, rfl⟩
                      obtain ⟨u, hu1⟩ : ∃ u, u = x % 262144 := ⟨_, rfl⟩
                      obtain ⟨v, hv1⟩ : ∃ v, v = y % 262144 := ⟨_, rfl⟩
                      rw [← hX] at ax ox
                      rw [← hY] at ay
                      rw [← hu1] at lx
                      rw [← hv1] at ly
                      obtain ⟨Z, hZ⟩ : ∃ Z, Z = X + 262143 := ⟨_, rfl⟩
                      rw [← hZ] at ox
                      have ax' : bits .and .i32 (x : Int) (bits .xor .i32 (if IntKind.i32.signed = true then -1 else IntKind.i32.max) 262143) = (X : Int) := ax
                      have ay' : bits .and .i32 (y : Int) (bits .xor .i32 (if IntKind.i32.signed = true then -1 else IntKind.i32.max) 262143) = (Y : Int) := ay
                      have A := Lib.hid (And.intro hX (And.intro hY (And.intro hu1 (And.intro hv1 hZ))))
                      have hZb : Z < 2097152 := by omega
                      have hYb : Y < 2097152 := by omega
                      clear hX hY hu1 hv1 hZ
                      by_cases d1 : X = Y
                      · have e1 : ((X : Int) != (Y : Int)) = false := by subst d1; simp
                        go_wp2_with fail
                        go_roundg (4 - (3 + 1) + 1)
                        case measure => omega
                        case rel =>
                          obtain ⟨hX, hY, hu1, hv1, hZ⟩ := A.out
                          exact ⟨4, by omega, by omega, rfl, rfl, rfl, hu, by omega, by omega, by omega⟩
                      · have e1 : ((X : Int) != (Y : Int)) = true := by rw [bne_iff_ne]; omega
                        by_cases d2 : u = 0
                        · have e2 : ((u : Int) != 0) = false := by subst d2; rfl
                          by_cases d3 : v = 262143
                          · have e3 : ((v : Int) != 262143) = false := by subst d3; rfl
                            go_wp2_with fail
                            go_roundg (4 - (3 + 1) + 1)
                            case measure => omega
                            case rel =>
                              obtain ⟨hX, hY, hu1, hv1, hZ⟩ := A.out
                              exact ⟨4, by omega, by omega, rfl, rfl, rfl, hu, by omega, by omega, by omega⟩
                          · have e3 : ((v : Int) != 262143) = true := by rw [bne_iff_ne]; omega
                            have hY1 : 1 ≤ Y := by have := A.out; omega
                            have hcut : cut x y = some (Y - 1, Y) := by
                              obtain ⟨hX, hY, hu1, hv1, hZ⟩ := A.out
                              unfold cut; rw [if_neg k0, if_neg (n1 (by omega)), if_neg (n2 (by omega)), if_neg (n3 (by omega)), if_neg hy, if_neg (m1 (by omega)).1, if_neg (m1 (by omega)).2, if_neg (m2 (by omega)).1, if_neg (m2 (by omega)).2, if_neg (by omega), if_pos (by omega), hY]
                            obtain ⟨hsp, hld⟩ := htd.split hcut
                            have hpush := rpush_calls (T := T) Y y hu.stk (hBw hu.fr) hTl
                            go_wp2_with fail
                            refine hpush.mono ?_
                            rintro e w3 ⟨sk', rfl, ho3, hf3, hn3⟩
                            have hu3 := hu.pushed (q := (Y, y)) hf3 ho3 hn3
                            have hu5 := hu3.setY (Y - 1)
                            rw [show ((Y - 1 : Nat) : Int) = (Y : Int) - 1 by omega] at hu5
                            have x2 := hu3.cur.cell 1 rfl
                            have f2 := hu3.cur.frz 1
                            clear hpush hu hu3 ho3 hf3 hn3
                            go_wp2_with fail
                            go_roundg (load ((x, Y - 1) :: (Y, y) :: T.reverse) + 1)
                            case measure => omega
                            case rel => exact ⟨L, T ++ [(Y, y)], x, Y - 1, hu5, by simpa using hsp, by simp, by omega⟩
                        · have e2 : ((u : Int) != 0) = true := by rw [bne_iff_ne]; omega
                          have hcut : cut x y = some (Z, Z + 1) := by
                            obtain ⟨hX, hY, hu1, hv1, hZ⟩ := A.out
                            unfold cut; rw [if_neg k0, if_neg (n1 (by omega)), if_neg (n2 (by omega)), if_neg (n3 (by omega)), if_neg hy, if_neg (m1 (by omega)).1, if_neg (m1 (by omega)).2, if_neg (m2 (by omega)).1, if_neg (m2 (by omega)).2, if_pos (by omega), hZ, hX]
                          obtain ⟨hsp, hld⟩ := htd.split hcut
                          have hpush : Calls Tryd.prog 67 #[u18, .agg #[.int .i32 ((Z : Int) + 1), .int .i32 (y : Int)]] wr _ := rpush_calls (T := T) (Z + 1) y hu.stk (hBw hu.fr) hTl
                          go_wp2_with fail
                          refine hpush.mono ?_
                          rintro e w3 ⟨sk', rfl, ho3, hf3, hn3⟩
                          have hu3 := hu.pushed (q := (Z + 1, y)) hf3 ho3 hn3
                          have hu5 := hu3.setY Z
                          have x2 := hu3.cur.cell 1 rfl
                          have f2 := hu3.cur.frz 1
                          have x3 := hu3.cur.cell 0 rfl
                          clear hpush hu hu3 ho3 hf3 hn3
                          go_wp2_with fail
                          go_roundg (load ((x, Z) :: (Z + 1, y) :: T.reverse) + 1)
                          case measure => omega
                          case rel => exact ⟨L, T ++ [(Z + 1, y)], x, Z, hu5, by simpa using hsp, by simp, by omega⟩
                  · as_aux_lemma =>
                      have hcut : cut x y = none := by unfold cut; rw [if_neg k0, if_neg (n1 (by omega)), if_neg (n2 (by omega)), if_neg (n3 (by omega)), if_neg hy, if_neg (m1 (by omega)).1, if_neg (m1 (by omega)).2, if_neg (m2 (by omega)).1, if_neg (m2 (by omega)).2, if_neg (m3 (by omega)).1, if_neg (m3 (by omega)).2]
                      obtain ⟨hlf, hld⟩ := htd.leaf hcut
                      obtain ⟨cs, l1, b1⟩ := hu.bs
                      obtain ⟨ce, l2, b2⟩ := hu.be
                      have q1 := enc2b_calls hu.cur b1 b2 l1 l2 hne hok.1 hok.2.1
                      obtain ⟨hl1, hl2, hl3⟩ := enc_len_eq hxy (by omega) (n1 (by omega)) (n2 (by omega)) (n3 (by omega))
                      rw [← hl1] at q1
                      have hby := enc_byte hok.1
                      have hby2 := enc_byte hok.2.1
                      generalize hn : (enc x).length = n at *
                      clear hl1 hn
                      go_wp2_with fail
                      refine q1.mono ?_
                      rintro e w5 ⟨cs', ce', rfl, y1, y2, y3, y4, b1', b2', hf⟩
                      have hu1 := hu.bufs y1 y2 b1' b2' hf
                      have q2 := sfr_calls b1' b2' y1 y2 hl2 hl3 (by rw [y3]; exact hby) (by rw [y4]; exact hby2)
                      have q2d := sfr_calls b1'.drew b2'.drew y1 y2 hl2 hl3 (by rw [y3]; exact hby) (by rw [y4]; exact hby2)
                      have z1 : (n : Int) ≤ 4 := by omega
                      have z2 : (0 : Int) ≤ (n : Int) := by omega
                      clear hu q1 hf b1 b2 b1' b2' n1 n2 n3 m1 m2 m3
                      go_wp2_with fail
                      refine wp_region_seqT (fun _ => True) (fun i => decide (i ≠ 6)) (fun _ => false) [0, 1, 2, 3, 4, 5, 6, 7, 8, 9, 10, 11] (by kernel_rfl) (by kernel_rfl) (fun c a d v w h => by cases d <;> exact h) trivial ?_
                      iterate 6 (apply seqT_read (ho := rfl) (hr := rfl) (hg := rfl); (rintro w' -; go_simp; rfl))
                      refine seqT_do rfl rfl fun K hK => ?_
                      go_simp
                      refine q2d.mono ?_
                      rintro e w6 ⟨v, rfl, hsq, hf6⟩
                      refine hK _ _ (fun _ => trivial) ?_
                      clear hK K
                      iterate 5 (apply seqT_read (ho := rfl) (hr := rfl) (hg := rfl); (rintro w' -; go_simp; rfl))
                      unfold seqT
                      obtain ⟨vA, vm, vc, rfl⟩ : ∃ A m c, v = .slice A m c := by
                        obtain ⟨A, c, h, -⟩ := hsq
                        exact ⟨A, _, c, h⟩
                      have hLl := htd.len hab
                      have hu2 := hu1.drop ((Fr.refl (fun _ => False) w5).drew.trans hf6 (fun _ _ h => h))
                      obtain ⟨vs, hown, hvs⟩ := hu2.rows
                      have hvl : vs.length = L.length := by simpa using hown.1
                      have hBs : B ≤ w6.heap.size := hBw hu2.fr
                      have HH := Lib.hid (And.intro hu2 (And.intro hlf (And.intro hsq (And.intro hvs (And.intro hvl hab)))))
                      clear hu1 hu2 hlf hsq hvs hvl hf6 htd hcut hok q2 q2d
                      simp only [List.length_cons] at hLl
                      go_wp2_with (at_builtin; ((refine app1b w6 w6.heap.size rfl rfl _ _ 95 rfl B 135 (.slice none 0 0) 1 24 Tryd.underlying95 (by kernel_rfl) rfl (by decide) u15 L.length vs [.slice vA vm vc] rfl rfl hown rfl (by simp [Value.oneCell']) (by omega) (by decide) hBs ?_); intro v2 w7 ho2 hf2 hn2; obtain ⟨hu4, hlf, hsq, hvs, hvl, hab⟩ := HH.out; rw [y3, y4] at hsq; have hu5 := hu4.rowed (q := (x, y)) hvs hvl hown hsq hf2 ho2; obtain ⟨p, q, hpop⟩ := pop_at hab hu5 hlf; clear HH hu4 hlf hsq hvs hu5 ho2 hf2 hn2 hown))
                      refine hpop.mono ?_
                      rintro e w8 ⟨sk', rfl, hbk, hat⟩
                      have x2 := hbk.cell 0 rfl
                      have f2 := hbk.frz 0
                      have x3 := (hbk.set 0 (.int .i32 (p : Int))).cell 1 rfl
                      have f3 := (hbk.set 0 (.int .i32 (p : Int))).frz 1
                      clear hpop hbk
                      go_wp2_with fail
                      rw [Exit.noGoto_exit]
                      go_wp2_with fail
                      go_roundg (load T.reverse + 1)
                      case measure => omega
                      case rel => exact hat
            · as_aux_lemma =>
                obtain ⟨m, hm, hmax⟩ : ∃ m : Nat, (k = 1 ∧ m = 127 ∨ k = 2 ∧ m = 2047 ∨ k = 3 ∧ m = 65535) ∧ ∀ W : World, Calls Tryd.prog 71 #[.int .i64 (k : Int)] W fun e w' => e = .returned (.int .i32 (m : Int)) ∧ W = w' := by
                  have : k = 1 ∨ k = 2 ∨ k = 3 := by omega
                  rcases this with rfl | rfl | rfl
                  · exact ⟨127, by simp, fun W => max_calls 1 (by decide) (by decide)⟩
                  · exact ⟨2047, by simp, fun W => max_calls 2 (by decide) (by decide)⟩
                  · exact ⟨65535, by simp, fun W => max_calls 3 (by decide) (by decide)⟩
                have e0 : (k : Int) < 4 := by omega
                have hmb : m ≤ 65535 := by omega
                have x0 := hu.cur.cell 0 rfl
                have x1 := hu.cur.cell 1 rfl
                go_wp2_with fail
                refine (hmax _).mono ?_
                rintro e w' ⟨rfl, rfl⟩
                clear hmax
                by_cases hA : x ≤ m
                · by_cases hB2 : m < y
                  · have e1 : (x : Int) ≤ (m : Int) := by omega
                    have e2 : (m : Int) < (y : Int) := by omega
                    have hcut : cut x y = some (m, m + 1) := by
                      unfold cut
                      rw [if_neg k0]
                      rcases hm with ⟨rfl, rfl⟩ | ⟨rfl, rfl⟩ | ⟨rfl, rfl⟩
                      · rw [if_pos ⟨hA, hB2⟩]
                      · rw [if_neg (n1 (by omega)), if_pos ⟨hA, hB2⟩]
                      · rw [if_neg (n1 (by omega)), if_neg (n2 (by omega)), if_pos ⟨hA, hB2⟩]
                    obtain ⟨hsp, hld⟩ := htd.split hcut
                    have hpush : Calls Tryd.prog 67 #[u18, .agg #[.int .i32 ((m : Int) + 1), .int .i32 (y : Int)]] wr _ := rpush_calls (T := T) (m + 1) y hu.stk (hBw hu.fr) hTl
                    go_wp2_with fail
                    refine hpush.mono ?_
                    rintro e w3 ⟨sk', rfl, ho3, hf3, hn3⟩
                    have hu3 := hu.pushed (q := (m + 1, y)) hf3 ho3 hn3
                    have hu5 := hu3.setY m
                    have x2 := hu3.cur.cell 1 rfl
                    have f2 := hu3.cur.frz 1
                    clear hpush hu hu3 ho3 hf3 hn3
                    go_wp2_with fail
                    go_roundg (load ((x, m) :: (m + 1, y) :: T.reverse) + 1)
                    case measure => omega
                    case rel => exact ⟨L, T ++ [(m + 1, y)], x, m, hu5, by simpa using hsp, by simp, by omega⟩
                  · have e1 : (x : Int) ≤ (m : Int) := by omega
                    have e2 : ¬ ((m : Int) < (y : Int)) := by omega
                    go_wp2_with fail
                    go_roundg (4 - (k + 1) + 1)
                    case measure => omega
                    case rel => exact ⟨k + 1, by omega, by omega, rfl, by simp, rfl, hu, by omega, by omega, by omega⟩
                · have e1 : ¬ ((x : Int) ≤ (m : Int)) := by omega
                  go_wp2_with fail
                  go_roundg (4 - (k + 1) + 1)
                  case measure => omega
                  case rel => exact ⟨k + 1, by omega, by omega, rfl, by simp, rfl, hu, by omega, by omega, by omega⟩
    · have c0 := hu.cur.cell 0 rfl
      have c1' := hu.cur.cell 1 rfl
      have s0 := hu.nils.s0
      have s1 := hu.nils.s1
      have q1 := neq160_f
      go_wp2_with fail
      try rw [Exit.noGoto_ret]
      go_ret3
      obtain ⟨es, x1, x2⟩ := hu.bs
      obtain ⟨ee, x3, x4⟩ := hu.be
      exact ⟨_, _, es, ee, rfl, hu.rows, hu.stk, x2, x4, x1, x3, hu.fr⟩
end Go.Proofs.YtjeklnbfpehbeaaDoor
