/- The walk of '(*dfaBuilder).build' of package regexp: the automaton of a program. Condition: the program's automata are small. The methods of package regexp's automaton, walked: Start, Accept, IsMatch, CanMatch, WillAlwaysMatch. Condition: the state is one of the automaton's. The walk of 'path' of package impl at an automaton of an expression: state by state, what matches, what can match. Condition: the text is at most 10^6 bytes. -/
import Derived.Test.YtjeklnbfpehbeaaDoorM01
set_option linter.unusedVariables false
/- The walk of '(*dfaBuilder).build' of package regexp: the automaton of a program. Condition: the program's automata are small. -/
namespace Go.Proofs.YtjeklnbfpehbeaaDoor
open Go.RowKit Go.Maps

theorem keyed3 : Keyed Tryd.prog 3 := int_keyed Tryd.underlying3
theorem zero126 (w : World) : (zeroValue 126).run Tryd.prog w = .ok (.agg #[]) w := by kernel_rfl
theorem key3 {x : Nat} (h : x ≤ 20000) : keyOf Tryd.prog 3 (.int .i64 (x : Int)) = some (.int .i64 (x : Int)) := keyOf_int_mk Tryd.underlying3 (wf_small h)

/-- The start state is right, and stays. -/
def Strt (p : List Ins) (S : List DSt) : Prop := ∃ (s : DSt) (l0 : List Nat), S[1]? = some s ∧ AddOk p [] 0 l0 ∧ s.l = l0.filter (rm p)
theorem Strt.grew {p : List Ins} {S S' : List DSt} (h : Strt p S) (hg : Grew S S') : Strt p S' := by
  obtain ⟨s, l0, h1, h2, h3⟩ := h
  obtain ⟨s', h4, h5⟩ := hg 1 s h1
  exact ⟨s', l0, h4, h2, h5.trans h3⟩

theorem inv_dead (p : List Ins) (nb : Nat) : SInv p [dead nb] :=
  ⟨⟨dead nb, rfl, rfl, rfl, rfl⟩, fun i s h1 h2 => (by rw [List.getElem?_eq_none (by simp; omega)] at h2; cases h2), fun i j s t h1 _ h2 => (by rw [List.getElem?_eq_none (by simp; omega)] at h2; cases h2)⟩

theorem cout_first {p : List Ins} {nb ns : Nat} {S1 : List DSt} {l0 : List Nat} (h : COut [dead nb] S1 (l0.filter (rm p)) (l0.any (mt p)) ns) (hne : l0.filter (rm p) ≠ []) (ha : AddOk p [] 0 l0) (hn : l0.Nodup) (hl : ∀ x, x ∈ l0 → x < p.length) : ns = 1 ∧ Strt p S1 ∧ Srch p S1 1 0 [] [] := by
  have hinv := (inv_dead p nb).cout h hn hl
  rcases h with ⟨h1, _, _⟩ | ⟨_, rfl, h2, s, hs, _⟩ | ⟨_, rfl, _, iv, nb', rfl⟩
  · exact absurd h1 hne
  · rw [List.getElem?_eq_none (by simp; omega)] at hs; cases hs
  · refine ⟨rfl, ⟨_, l0, snoc_at [dead nb] _, ha, rfl⟩, hinv, by rw [snoc_len]; simp, fun x hx => (by cases hx), fun x hx => (by cases hx), List.nodup_nil, fun d hd => absurd hd (Nat.not_lt_zero d), fun i h1 h2 => ?_⟩
    rw [snoc_len] at h2
    simp at h2
    exact .inl (by omega)

theorem cout_first_len {nb ns : Nat} {S1 : List DSt} {f : List Nat} {m : Bool} (h : COut [dead nb] S1 f m ns) (hne : f ≠ []) : S1.length = 2 := by
  rcases h with ⟨h1, _, _⟩ | ⟨_, rfl, h2, s, hs, _⟩ | ⟨_, rfl, _, iv, nb', rfl⟩
  · exact absurd h1 hne
  · rw [List.getElem?_eq_none (by simp; omega)] at hs; cases hs
  · rw [snoc_len]; rfl

theorem where_new {w w1 w2 : World} {bb db mb B a ad az b bd bs sm : Nat} (hB : B ≤ w.heap.size) (h1 : w.heap.size ≤ a) (h2 : w.heap.size ≤ ad) (h3 : w.heap.size ≤ az) (h4 : w1.heap.size ≤ b) (h5 : w1.heap.size ≤ bd) (h6 : w1.heap.size ≤ bs) (h7 : w2.heap.size ≤ sm)
    (ha : a < w1.heap.size) (had : ad < w1.heap.size) (haz : az < w1.heap.size) (hbd : bd < w2.heap.size) (hbs : bs < w2.heap.size) (hmb : mb < w2.heap.size) (l1 : w.heap.size ≤ w1.heap.size) (l2 : w1.heap.size ≤ w2.heap.size) : Where bb db mb B w2.heap.size a ad az b bd bs sm := by
  refine ⟨by omega, by omega, by omega, by omega, by omega, by omega, by omega, hbd, hbs, by omega, by omega, ?_, by omega⟩
  rintro k (rfl | rfl | rfl) (h | h | h) <;> omega

theorem ss_lt {w : World} {b bd bs n : Nat} {l : List Nat} (h : SS w b bd bs n l) : b < w.heap.size ∧ bd < w.heap.size ∧ bs < w.heap.size := by
  obtain ⟨cd, _, d2, _⟩ := h.dense
  obtain ⟨cs, _, s2, _⟩ := h.sparse
  exact ⟨h.head.lt, d2.lt, s2.lt⟩

theorem reuse_nil (w : World) (M : Nat) (S : List DSt) : Reuse w M S (.slice none 0 0) := ⟨⟨0, [], World.ownsRow_nil _ _ _ _⟩, fun s hs k hk e => by simp [Value.ownBlock] at e⟩

/-- All laid for the search. -/
theorem bc_start {w : World} {bb db mb : Nat} {pv : Value} {p : List Ins} {B M a ad az b bd bs : Nat} {kv sv r : Value} {S : List DSt} {D : DataW Unit} {la lb : List Nat} (h : DB w bb db mb pv p B M kv sv S D) (ha : SS w a ad az p.length la) (hb : SS w b bd bs p.length lb) (hr : Reuse w M S r) (hM : M ≤ w.heap.size) :
    BC ((w.alloc (.cells #[.int .i64 1] 3)).alloc (.map #[] 0)) bb db mb pv p B M a ad az b bd bs (w.heap.size + 1) kv sv r (.slice (some ⟨w.heap.size, 0, none⟩) 1 1) S D ([] ++ [1]) [] (.map []) := by
  have hf : Fr (fun _ => False) w ((w.alloc (.cells #[.int .i64 1] 3)).alloc (.map #[] 0)) := ((Fr.refl _ w).alloc _).alloc _
  obtain ⟨rn, rxs, ho⟩ := hr.own
  refine ⟨h.fr hf (fun _ h => h.elim) (fun h => h) (fun h => h) (fun h => h) (fun _ _ h => h) (fun _ _ h => h) (fun _ _ _ _ h => h) (fun _ _ h => h), ⟨la, ha.fr hf (fun h => h) (fun h => h) (fun h => h)⟩, ⟨lb, hb.fr hf (fun h => h) (fun h => h) (fun h => h)⟩, ⟨⟨rn, rxs, own_fr ho hf (fun _ _ h => h)⟩, hr.apart⟩, ?_, ?_, fun x => rfl, isMap_empty, fun x hx e => ?_, Nat.le_trans hM hf.size⟩
  · have h1 : Blk (w.alloc (.cells #[.int .i64 1] 3)) w.heap.size (i64s [1]) 3 := Blk.new w (i64s [1]) 3
    exact own_of_blk (n := 1) (c := 1) (h1.alloc (.map #[] 0)) hM (Nat.le_refl _) (by decide) rfl
  · have := World.ownsMap_made (H := Unit) (w.alloc (.cells #[.int .i64 1] 3)) Tryd.prog 3 unitElem
    simpa using this
  · simp [Value.ownBlock] at e
    have := (h.next x hx).1.lt
    omega

theorem own_sl {w : World} {base n : Nat} {e : TypeId} {size : Nat} {v : Value} {xs : List Value} (h : w.ownsRow base e size v n xs) : ∃ A c, v = .slice A n c := by
  rcases h.2 with ⟨rfl, rfl⟩ | ⟨g, cap, cur, rfl, _⟩
  · exact ⟨none, 0, rfl⟩
  · exact ⟨_, cap, rfl⟩
/-- What 'build' leaves. -/
def Built (w : World) (bb db mb : Nat) (pv : Value) (p : List Ins) (B : Nat) : Prop := ∃ (M : Nat) (kv sv : Value) (S : List DSt) (D : DataW Unit), DB w bb db mb pv p B M kv sv S D ∧ Dfa p S

/-- What 'build' hands back: the automaton; or the error E, where there are too many states. -/
def BuildPost (w w' : World) (bb db mb : Nat) (pv : Value) (p : List Ins) (B : Nat) (E : Value) (e : Ending) : Prop :=
  ((e = .returned (.tuple #[.pointer (some ⟨db, 0, none⟩), .nilIface]) ∧ Built w' bb db mb pv p B) ∨ (e = .returned (.tuple #[.pointer none, E]) ∧ ¬ Cap p)) ∧ Fr (fun k => B ≤ k) w w'

set_option maxRecDepth 100000 in
set_option maxHeartbeats 4000000 in
theorem build_calls {bb db mb : Nat} {pv : Value} {p : List Ins} {B : Nat} {sv : Value} {nb : Nat} (w : World)
    (h : ∀ M, B ≤ M → DB w bb db mb pv p B M (.slice none 0 0) sv [dead nb] (.map [])) (hB : B ≤ w.heap.size) {E : Value} (hE : w.cell? ⟨4, 0, none⟩ = some E) (hB4 : 4 < B) (hst : ∀ l0, AddOk p [] 0 l0 → l0.filter (rm p) ≠ []) (hp : 0 < p.length) :
    Calls Tryd.prog 30 #[.pointer (some ⟨bb, 0, none⟩)] w fun e w' => BuildPost w w' bb db mb pv p B E e := by
  have h0 := h B (Nat.le_refl _)
  have hpn := h0.prg.wf.small
  have hb0 := h0.hb.cell 0 rfl
  have hd0 := h0.hd.cell 0 rfl
  have hdlt := h0.hd.lt
  have hmlt := h0.map.lt
  obtain ⟨pa, cp, hpv, hpc, -⟩ := h0.prg.at_
  subst hpv
  have hnew := set_new p.length hpn
  have HH := Lib.hid h
  have HHC := Lib.hid (And.intro hE hst)
  clear h hst h0 hE
  go_enter Tryd.func30, Tryd.ntmps30
  go_wp2_with fail
  refine (hnew w).mono ?_
  rintro e w1 ⟨a, ad, az, rfl, ha1, q1, q2, q3, hF1⟩
  have hb01 := hF1.cell hb0 (fun h => h)
  have hd01 := hF1.cell hd0 (fun h => h)
  have HA1 := Lib.hid (And.intro ha1 hF1)
  clear ha1 hF1
  go_wp2_with fail
  refine (hnew w1).mono ?_
  rintro e w2 ⟨b, bd, bs, rfl, hb2, q4, q5, q6, hF2⟩
  obtain ⟨ha1, hF1⟩ := HA1.out
  have ha2 := ha1.fr hF2 (fun h => h) (fun h => h) (fun h => h)
  have hF12 : Fr (fun _ => False) w w2 := hF1.trans hF2 (fun _ _ h => h)
  have hDB2 := (HH.out w2.heap.size (Nat.le_trans hB hF12.size)).fr hF12 (fun _ h => h.elim) (fun h => h) (fun h => h) (fun h => h) (fun _ _ h => h) (fun _ _ h => h) (fun _ _ _ _ h => h) (fun _ _ h => h)
  have hadd := add_calls (pv := .slice (some ⟨pa, 0, none⟩) p.length cp) (sv := sv) (db := db) (Nat.le_trans hB q1) (Nat.le_trans hB q2) (Nat.le_trans hB q3) (by rintro (e | e | e) <;> omega) p.length w2 [] 0 ha2 hDB2.prg hDB2.hd hp (by simp)
  have hb02 := hDB2.hb.cell 0 rfl
  have HA2 := Lib.hid (And.intro ha1 (And.intro hF1 (And.intro hb2 (And.intro hF2 (And.intro ha2 (And.intro hF12 hDB2))))))
  clear hnew hb2 hF2 ha1 hF1 ha2 hF12 hDB2 hb0 hd0 hb01 hd01
  go_wp2_with fail
  refine hadd.mono ?_
  rintro e w3 ⟨l0, rfl, ha3, hao, hF3⟩
  obtain ⟨ha1, hF1, hb2, hF2, ha2, hF12, hDB2⟩ := HA2.out
  have la1 := ss_lt ha1
  have lb2 := ss_lt hb2
  have W : Where bb db mb B w2.heap.size a ad az b bd bs w3.heap.size := where_new (w := w) (w1 := w1) hB q1 q2 q3 q4 q5 q6 hF3.size la1.1 la1.2.1 la1.2.2 lb2.2.1 lb2.2.2 (Nat.lt_of_lt_of_le hmlt hF12.size) hF1.size hF2.size
  have hDB3 := hDB2.set_fr ha2 hF3 W.g4 W.g5 W.g6 W.m5 W.m6
  have hb3 : SS w3 b bd bs p.length [] := hb2.fr hF3 (fun h => W.hab _ h (.inl rfl)) (fun h => W.hab _ h (.inr (.inl rfl))) (fun h => W.hab _ h (.inr (.inr rfl)))
  have hcach := cached_calls w3 hDB3 ha3 (reuse_nil _ _ _) W.g4 W.g5 W.g6 W.m5 W.m6 hF3.size (Nat.le_refl 1) (by simp)
  have hb03 := hDB3.hb.cell 0 rfl
  have HA3 := Lib.hid (And.intro hDB3 (And.intro ha3 (And.intro hb3 (And.intro hao (And.intro hF3 hF12)))))
  have HW := Lib.hid W
  clear ha1 hF1 hb2 hF2 ha2 hF12 hDB2 hDB3 ha3 hb3 hao hF3 hb02 hadd W
  go_wp2_with fail
  refine hcach.mono ?_
  rintro e w4 ⟨ns, r', kv', sv', S1, D', rfl, h4, hr4, hout, hF4, z1, z2, z3, z4⟩
  obtain ⟨hDB3, ha3, hb3, hao, hF3, hF12⟩ := HA3.out
  have W := HW.out
  have hS1l : S1.length = 2 := cout_first_len hout (HHC.out.2 l0 hao)
  obtain ⟨rfl, hStrt, hSr⟩ := cout_first hout (HHC.out.2 l0 hao) hao ha3.nodup ha3.lt
  obtain ⟨n1, n2, n3⟩ := set_not_cf hDB3 ha3 (reuse_nil _ _ _) W.m5 W.m6
  obtain ⟨n4, n5, n6⟩ := set_not_cf hDB3 hb3 (reuse_nil _ _ _) W.m2 W.m3
  have ha4 := ha3.fr hF4 n1 n2 n3
  have hb4 := hb3.fr hF4 n4 n5 n6
  have hM4 : w2.heap.size ≤ w4.heap.size := Nat.le_trans hF3.size hF4.size
  have hbc := bc_start h4 ha4 hb4 hr4 hM4
  have W2 : Where bb db mb B w2.heap.size a ad az b bd bs (w4.heap.size + 1) := ⟨W.g1, W.g2, W.g3, W.g4, W.g5, W.g6, by have := W.g1; have := lb2.1; omega, W.m2, W.m3, W.m5, W.m6, W.hab, by have := hF12.size; omega⟩
  have hFr4 : Fr (fun k => B ≤ k) w w4 := by
    refine ((hF12.mono (G := fun k => B ≤ k) (fun _ _ h => h.elim)).trans hF3 (fun k _ hk => SSf_ge W.g4 W.g5 W.g6 k hk)).trans hF4 (fun k hk e => ?_)
    rcases e with e | e | e | e | e | e
    · subst e; exact h4.geb
    · subst e; exact h4.ged
    · subst e; exact h4.gem
    · simp [Value.ownBlock] at e
    · exact (own_lt' hDB3.sts e).1
    · simp [Value.ownBlock] at e
  have hpop := pop_calls (l := []) hbc.own (by simp)
  have HA4 := Lib.hid (And.intro hbc (And.intro W2 (And.intro hFr4 (And.intro hStrt hSr))))
  clear hDB3 ha3 hb3 hao hF3 hF12 hb03 hcach W h4 hr4 hout hF4 z1 z2 z3 z4 hStrt hSr n1 n2 n3 n4 n5 n6 ha4 hb4 W2 hFr4 hbc
  have hmm : ∀ W : World, (Instr.makeMap 122 none).run Tryd.prog W = .ok (.map (some W.heap.size)) (W.alloc (.map #[] 0)) := fun W => by kernel_rfl
  go_wp2_with fail
  refine hpop.mono ?_
  rintro e w5 ⟨stk5, rfl, hown5, hw5, hn5⟩
  obtain ⟨hbc, W2, hFr4, hStrt, hSr⟩ := HA4.out
  have hbc5 := hbc.popped hown5 hw5 hn5
  have hFr5 : Fr (fun k => B ≤ k) w w5 := by
    obtain ⟨n, rfl⟩ := hw5
    exact ((hFr4.alloc _).alloc _).drewN n
  have HA5 := Lib.hid (And.intro hbc5 (And.intro hFr5 (And.intro hStrt hSr)))
  have HW2 := Lib.hid W2
  clear hbc W2 hFr4 hStrt hSr hbc5 hFr5 hpop hown5 hw5 hn5 hmm
  go_wp2_with fail
  go_loopg [7, 8, 10] 20003 (fun g r stk s wr => ∃ (sn : Nat) (kv sv : Value) (S : List DSt) (D : DataW Unit) (T V : List Nat) (Dm : DataW Unit), s = .int .i64 (sn : Int) ∧ BC wr bb db mb (.slice (some ⟨pa, 0, none⟩) p.length cp) p B w2.heap.size a ad az b bd bs (w4.heap.size + 1) kv sv r stk S D T V Dm ∧ Srch p S sn 0 T V ∧ Strt p S ∧ (sn = 0 → T = []) ∧ Fr (fun k => B ≤ k) w wr ∧ 2 * (10001 - V.length) + T.length + (if sn = 0 then 0 else 1) ≤ g ∧ 2 * (10001 - V.length) + T.length ≤ 20002 ∧ S.length ≤ 10000)
  case atStart => exact ⟨1, _, _, _, _, _, _, _, rfl, HA5.out.1, HA5.out.2.2.2, HA5.out.2.2.1, (fun h => by cases h), HA5.out.2.1, by decide, by decide, by rw [hS1l]; decide⟩
  case round =>
    obtain ⟨sn, kv, sv', S, D, T, V, Dm, rfl, hbc, hsr, hstrt, hz, hfr, hg, hg2, hS9⟩ := hrel
    have hV9 := hsr.seen_len
    by_cases h0 : sn = 0
    · subst h0
      have hb0 := hbc.db.hb.cell 0 rfl
      have HX := Lib.hid (And.intro hbc (And.intro hsr (And.intro hstrt (And.intro hfr hz))))
      clear hbc hsr hstrt hfr hz
      go_wp2_with fail
      go_ret2
      obtain ⟨hbc, hsr, hstrt, hfr, hz⟩ := HX.out
      refine ⟨.inl ⟨rfl, ⟨_, kv, sv', S, D, hbc.db, ⟨hsr.inv, hstrt, fun i c h1 h2 hc => ?_, hS9⟩⟩⟩, hfr⟩
      rcases hsr.all i h1 h2 with h | h | h
      · omega
      · rw [hz trivial] at h; cases h
      · exact h c hc
    · have hd1 : ((sn : Int) != 0) = true := by rw [bne_iff_ne]; omega
      have hd2 : ¬ ((sn : Int) = 0) := by omega
      have hs1 : 1 ≤ sn := by omega
      rw [if_neg h0] at hg
      have HX := Lib.hid (And.intro hbc (And.intro hsr (And.intro hstrt (And.intro hfr hz))))
      clear hbc hsr hstrt hfr hz
      obtain ⟨N, hN⟩ : ∃ N, 2 * (10001 - V.length) + T.length + 1 = N := ⟨_, rfl⟩
      have hNg := hg
      rw [hN] at hNg
      go_wp2_with fail
      go_loopg [7, 8, 11] 257 (fun g1 r stk ci wq => ∃ (c : Nat) (kv sv : Value) (S : List DSt) (D : DataW Unit) (T V : List Nat) (Dm : DataW Unit), ci = .int .i64 (c : Int) ∧ c ≤ 256 ∧ g1 = 256 - c + 1 ∧ BC wq bb db mb (.slice (some ⟨pa, 0, none⟩) p.length cp) p B w2.heap.size a ad az b bd bs (w4.heap.size + 1) kv sv r stk S D T V Dm ∧ Srch p S sn c T V ∧ Strt p S ∧ Fr (fun k => B ≤ k) w wq ∧ 2 * (10001 - V.length) + T.length + 1 ≤ N ∧ S.length ≤ 10000)
      case atStart => exact ⟨0, _, _, _, _, _, _, _, rfl, by omega, rfl, HX.out.1, HX.out.2.1, HX.out.2.2.1, HX.out.2.2.2.1, Nat.le_of_eq hN, hS9⟩
      case round =>
        obtain ⟨c, kv, sv', S, D, T, V, Dm, rfl, hc, rfl, hbc, hsr, hstrt, hfr, hN2, hS9⟩ := hrel
        have W2 := HW2.out
        have hV9 := hsr.seen_len
        have hTl : T.length ≤ 100000 := by
          have : N ≤ 20003 := by omega
          omega
        by_cases hlt : c < 256
        · obtain ⟨st, hst⟩ : ∃ st, S[sn]? = some st := ⟨_, List.getElem?_eq_getElem hsr.cur⟩
          have hok := hsr.inv.ok sn st hs1 hst
          obtain ⟨la, ha⟩ := hbc.sa
          obtain ⟨lb, hb⟩ := hbc.sb
          have hrun := runstate_calls _ hbc.db ha hb hbc.ru W2.g1 W2.g2 W2.g3 W2.g4 W2.g5 W2.g6 W2.m2 W2.m3 W2.m5 W2.m6 hbc.hM hsr.inv.len (by omega) W2.hab sn st hst (List.length_pos_iff.2 hok.ne) hok.nodup (fun x hx => (hok.lt x hx).1) c hlt
          have e8 : IntKind.u8.wrap (c : Int) = (c : Int) := IntWalk.u8_in _ (by omega)
          have hlt' : (c : Int) < 256 := by omega
          have HY := Lib.hid (And.intro hbc (And.intro hsr (And.intro hstrt hfr)))
          have HL := Lib.hid (And.intro hst hok)
          clear ha hb hbc hsr hstrt hfr hok hst
          go_wp2_with fail
          refine hrun.mono ?_
          rintro e w6 ⟨ns, r6, kv6, sv6, S6, D6, la6, lb6, rfl, h6, ha6, hb6, hr6, hstep, hout, hF6, y1, y2, y3, y4⟩
          obtain ⟨hbc, hsr, hstrt, hfr⟩ := HY.out
          obtain ⟨hst, hok⟩ := HL.out
          have hmem := List.mem_of_getElem? hst
          have hbc6 := hbc.ran W2 ⟨st, hmem, rfl⟩ h6 ha6 hb6 hr6 hF6 y4
          have hfr6 := hfr.trans hF6 (fun k _ hk => RF_ge hbc W2 hmem k hk)
          obtain ⟨hA, hBB⟩ := hsr.round hs1 hst hlt hstep hout hb6.nodup hb6.lt
          have hstrt6 := hstrt.grew (grew_cout (c := c) hout hst)
          have hS61 : S6.length ≤ S.length + 1 := by
            rcases hout with ⟨_, _, rfl⟩ | ⟨_, rfl, _⟩ | ⟨_, _, _, iv, nb', rfl⟩
            · omega
            · omega
            · exact Nat.le_of_eq (snoc_len _ _)
          have hnsl : ns ≤ 20000 := by
            have hh := (cout_len hout hsr.inv.len).1
            omega
          have hsame : ns = 0 ∨ ns ∈ V → S6.length ≤ 10000 := by
            intro hv
            have hns : ns < S.length := by
              rcases hv with hv | hv
              · have := hsr.inv.len; omega
              · exact (hsr.seen ns hv).2
            rcases hout with ⟨_, _, rfl⟩ | ⟨_, rfl, _⟩ | ⟨_, e, _⟩
            · exact hS9
            · exact hS9
            · omega
          have hb06 := h6.hb.cell 0 rfl
          have hd06 := h6.hd.cell 1 rfl
          have hb06a : ∀ X t, (w6.alloc (.cells X t)).cell? ⟨bb, 0, none⟩ = some (.pointer (some ⟨db, 0, none⟩)) := fun X t => (h6.hb.alloc _).cell 0 rfl
          have hd06a : ∀ X t, (w6.alloc (.cells X t)).cell? ⟨db, 1, none⟩ = some sv6 := fun X t => (h6.hd.alloc _).cell 1 rfl
          have hlenset : (S6.set sn (st.goto_ c ns)).length = S6.length := List.length_set
          have hn10 : ns = 0 ∨ ns ∈ V → ¬ ((10000 : Int) < ((S6.set sn (st.goto_ c ns)).length : Int)) := by
            intro hv
            have := hsame hv
            omega
          obtain ⟨A6, c6, hsv6⟩ := own_sl h6.sts
          subst hsv6
          have hmap6 := hbc6.map
          have hhas := hbc6.has ns
          have ec : IntKind.i64.wrap ((c : Int) + 1) = (c : Int) + 1 := IntWalk.i64_in _ (by omega)
          have HZ := Lib.hid (And.intro hbc6 (And.intro hfr6 (And.intro hA (And.intro hBB hstrt6))))
          generalize hSn : S6.set sn (st.goto_ c ns) = Sn at *
          clear hbc hsr hstrt hfr hst hok hmem h6 ha6 hb6 hr6 hstep hout hF6 y1 y2 y3 y4 hbc6 hfr6 hA hBB hstrt6 hrun
          by_cases hn0 : ns = 0
          · have hn1 : ((ns : Int) != 0) = false := by rw [bne_eq_false_iff_eq]; omega
            have hn2 : (ns : Int) = 0 := by omega
            have hn10 := hn10 (.inl hn0)
            have hs6 := hsame (.inl hn0)
            go_wp2_with fail
            go_roundg (256 - (c + 1) + 1)
            case measure => omega
            case rel =>
              obtain ⟨hbc6, hfr6, hA, hBB, hstrt6⟩ := HZ.out
              exact ⟨c + 1, kv6, _, Sn, D6, T, V, Dm, by simp, by omega, rfl, hbc6, hA (.inl hn0), hstrt6, hfr6, hN2, by omega⟩
          · have hn1 : ((ns : Int) != 0) = true := by rw [bne_iff_ne]; omega
            have hn2 : ¬ ((ns : Int) = 0) := by omega
            by_cases hv : ns ∈ V
            · rw [decide_eq_true hv] at hhas
              have hn10 := hn10 (.inr hv)
              have hs6 := hsame (.inr hv)
              go_wp2_with (at_lookup; refine wpList_lookup_own_unit _ rfl _ _ 122 rfl 3 126 keyed3 Tryd.underlying122 (zero126 _) _ _ _ rfl hmap6 _ _ rfl (key3 hnsl) ?_; rw [hhas])
              go_roundg (256 - (c + 1) + 1)
              case measure => omega
              case rel =>
                obtain ⟨hbc6, hfr6, hA, hBB, hstrt6⟩ := HZ.out
                exact ⟨c + 1, kv6, _, Sn, D6, T, V, Dm, by simp, by omega, rfl, hbc6.drop ((Fr.refl _ w6).alloc _), hA (.inr hv), hstrt6, hfr6.alloc _, hN2, by omega⟩
            · rw [decide_eq_false hv] at hhas
              have hmapa : (w6.alloc (.cells #[] 126)).ownsMap Tryd.prog 3 unitElem (w4.heap.size + 1) V.length Dm := hmap6.alloc _
              go_wp2_with (first
                | (at_lookup; refine wpList_lookup_own_unit _ rfl _ _ 122 rfl 3 126 keyed3 Tryd.underlying122 (zero126 _) _ _ _ rfl hmap6 _ _ rfl (key3 hnsl) ?_; rw [hhas])
                | (at_mapUpdate; refine wpList_mapUpdate_own _ rfl _ _ _ 122 rfl 3 126 keyed3 Tryd.underlying122 _ _ _ _ rfl hmapa (by simp only [maxLen]; omega) _ _ _ rfl rfl (key3 hnsl) _ [] unitElem_mk ?_; intro w7 hm7 hg7)
                | fail)
              obtain ⟨hbc6, hfr6, hA, hBB, hstrt6⟩ := HZ.out
              have hF7 : Fr (fun k => k = w4.heap.size + 1) (w6.alloc (.cells #[] 126)) w7 := (Fr.refl _ _).grown hg7 (fun k hk _ => by injection hk with hk; exact hk.symm)
              have hbc7 := (hbc6.drop ((Fr.refl _ w6).alloc (.cells #[] 126))).saw W2 hF7 hm7
              have hpush := push_calls ns hbc7.own hbc7.hM (by omega)
              have hfr7 := (hfr6.alloc (.cells #[] 126)).trans hF7 (fun k _ hk => by subst hk; exact W2.g7)
              have HZ7 := Lib.hid (And.intro hbc7 hfr7)
              clear hbc6 hfr6 hA hBB hstrt6 hF7 hm7 hg7 hbc7 hfr7 hmapa hmap6
              go_wp2_with fail
              refine hpush.mono ?_
              rintro e w8 ⟨stk8, rfl, hown8, hF8, hn8⟩
              obtain ⟨hbc7, hfr7⟩ := HZ7.out
              have hbc8 := hbc7.pushed W2 hF8 hown8 hn8
              have hfr8 := hfr7.trans hF8 (fun k _ hk => Nat.le_trans hbc7.db.BM (own_lt' hbc7.own hk).1)
              have hb08 := hbc8.db.hb.cell 0 rfl
              have hd08 := hbc8.db.hd.cell 1 rfl
              have HZ8 := Lib.hid (And.intro hbc8 hfr8)
              have hE8 := hfr8.cell HHC.out.1 (by simp; omega)
              clear hbc7 hfr7 hown8 hF8 hn8 hbc8 hfr8 hpush hsame hn10
              by_cases hbig : 10000 < S6.length
              · have hn10 : (10000 : Int) < (Sn.length : Int) := by omega
                go_wp2_with fail
                go_quiet (fail)
                go_wp2_with fail
                go_ret2
                obtain ⟨hbc6, hfr6, hA, hBB, hstrt6⟩ := HZ.out
                obtain ⟨hbc8, hfr8⟩ := HZ8.out
                exact ⟨.inr ⟨rfl, fun hc => by have := (hBB hn0 hv).inv.small hc; omega⟩, hfr8.drewN _⟩
              · have hn10 : ¬ ((10000 : Int) < (Sn.length : Int)) := by omega
                go_wp2_with fail
                go_roundg (256 - (c + 1) + 1)
                case measure => omega
                case rel =>
                  obtain ⟨hbc6, hfr6, hA, hBB, hstrt6⟩ := HZ.out
                  obtain ⟨hbc8, hfr8⟩ := HZ8.out
                  have hSr8 := hBB hn0 hv
                  have := hSr8.seen_len
                  refine ⟨c + 1, kv6, _, Sn, D6, T ++ [ns], ns :: V, _, by simp, by omega, rfl, hbc8, hSr8, hstrt6, hfr8, ?_, by omega⟩
                  simp at this ⊢
                  omega
        · obtain rfl : c = 256 := by omega
          rcases List.eq_nil_or_concat T with rfl | ⟨T0, x, rfl⟩
          · have hpop := pop_nil hbc.own
            have hb0 := hbc.db.hb.cell 0 rfl
            have HY := Lib.hid (And.intro hbc (And.intro hsr (And.intro hstrt hfr)))
            clear hbc hsr hstrt hfr
            go_wp2_with fail
            refine hpop.mono ?_
            rintro e w9 ⟨rfl, rfl⟩
            go_wp2_with fail
            go_roundg (2 * (10001 - V.length))
            case measure => simp at hN2; omega
            case rel =>
              obtain ⟨hbc, hsr, hstrt, hfr⟩ := HY.out
              exact ⟨0, kv, sv', S, D, [], V, Dm, rfl, hbc, hsr.done hs1, hstrt, fun _ => rfl, hfr, by simp, by simp; omega, hS9⟩
          · rw [List.concat_eq_append] at *
            have hpop := pop_calls hbc.own (by simp at hTl; omega)
            have hx1 := (hsr.stk x (by simp)).1
            have HY := Lib.hid (And.intro hbc (And.intro hsr (And.intro hstrt hfr)))
            clear hbc hsr hstrt hfr
            go_wp2_with fail
            refine hpop.mono ?_
            rintro e w9 ⟨stk9, rfl, hown9, hw9, hn9⟩
            go_wp2_with fail
            go_roundg (2 * (10001 - V.length) + T0.length + 1)
            case measure => simp at hN2; omega
            case rel =>
              obtain ⟨hbc, hsr, hstrt, hfr⟩ := HY.out
              refine ⟨x, kv, sv', S, D, T0, V, Dm, rfl, hbc.popped hown9 hw9 hn9, hsr.pop hs1, hstrt, fun h => by omega, ?_, by rw [if_neg (by omega)]; exact Nat.le_refl _, by simp at hN2; omega, hS9⟩
              obtain ⟨n, rfl⟩ := hw9
              exact hfr.drewN n
end Go.Proofs.YtjeklnbfpehbeaaDoor

/- The methods of package regexp's automaton, walked: Start, Accept, IsMatch, CanMatch, WillAlwaysMatch. Condition: the state is one of the automaton's. -/
namespace Go.Proofs.YtjeklnbfpehbeaaDoor
open Go.RowKit Go.Maps

/-- A Regexp in memory, with its automaton. -/
def Rx (w : World) (rb : Nat) (p : List Ins) (S : List DSt) : Prop := ∃ (rv : Value) (bb db mb : Nat) (pv : Value) (B M : Nat) (kv sv : Value) (D : DataW Unit), Blk w rb [rv, .pointer (some ⟨db, 0, none⟩)] 69 ∧ DB w bb db mb pv p B M kv sv S D ∧ Dfa p S

theorem Rx.drop {w w' : World} {rb : Nat} {p : List Ins} {S : List DSt} (h : Rx w rb p S) (hf : Fr (fun _ => False) w w') : Rx w' rb p S := by
  obtain ⟨rv, bb, db, mb, pv, B, M, kv, sv, D, h1, h2, h3⟩ := h
  exact ⟨rv, bb, db, mb, pv, B, M, kv, sv, D, h1.fr hf (fun h => h), h2.fr hf (fun _ h => h.elim) (fun h => h) (fun h => h) (fun h => h) (fun _ _ h => h) (fun _ _ h => h) (fun _ _ _ _ h => h) (fun _ _ h => h), h3⟩
theorem Rx.dfa {w : World} {rb : Nat} {p : List Ins} {S : List DSt} (h : Rx w rb p S) : Dfa p S := by
  obtain ⟨rv, bb, db, mb, pv, B, M, kv, sv, D, h1, h2, h3⟩ := h
  exact h3

theorem rx_start {w : World} {rb : Nat} : Calls Tryd.prog 98 #[.pointer (some ⟨rb, 0, none⟩)] w fun e w' => e = .returned (.int .i64 1) ∧ w = w' := by
  go_enter Tryd.func98, Tryd.ntmps98
  go_wp2
  go_ret
  exact ⟨rfl, rfl⟩
theorem rx_always {w : World} {rb : Nat} {i : Nat} : Calls Tryd.prog 99 #[.pointer (some ⟨rb, 0, none⟩), .int .i64 (i : Int)] w fun e w' => e = .returned (.bool false) ∧ w = w' := by
  go_enter Tryd.func99, Tryd.ntmps99
  go_wp2
  go_ret
  exact ⟨rfl, rfl⟩

theorem rx_can {w : World} {rb : Nat} {p : List Ins} {S : List DSt} (h : Rx w rb p S) {i : Nat} (hi : i < S.length) : Calls Tryd.prog 96 #[.pointer (some ⟨rb, 0, none⟩), .int .i64 (i : Int)] w fun e w' => e = .returned (.bool (decide (1 ≤ i))) ∧ w = w' := by
  obtain ⟨rv, bb, db, mb, pv, B, M, kv, sv, D, h1, h2, h3⟩ := h
  obtain ⟨A, c, rfl⟩ := own_sl h2.sts
  have c1 := h1.cell 1 rfl
  have c2 := h2.hd.cell 1 rfl
  have e1 : (i : Int) < (S.length : Int) := by omega
  clear h1 h2 h3
  by_cases h0 : i = 0
  · subst h0
    have e2 : (0 : Int) < (S.length : Int) := by omega
    go_enter Tryd.func96, Tryd.ntmps96
    go_wp2
    go_ret
    exact ⟨rfl, rfl⟩
  · have e2 : (0 : Int) < (i : Int) := by omega
    have e3 : decide (1 ≤ i) = true := by simp; omega
    rw [e3]
    go_enter Tryd.func96, Tryd.ntmps96
    go_wp2
    go_ret
    exact ⟨rfl, rfl⟩

theorem rx_match {w : World} {rb : Nat} {p : List Ins} {S : List DSt} (h : Rx w rb p S) {i : Nat} {s : DSt} (hs : S[i]? = some s) : Calls Tryd.prog 97 #[.pointer (some ⟨rb, 0, none⟩), .int .i64 (i : Int)] w fun e w' => e = .returned (.bool s.m) ∧ w = w' := by
  obtain ⟨rv, bb, db, mb, pv, B, M, kv, sv, D, h1, h2, h3⟩ := h
  have hi := (List.getElem?_eq_some_iff.1 hs).1
  obtain ⟨g, c, rfl, hc, hcm, hcell, -⟩ := own_cell h2.sts (flat_at hs 2 (by decide))
  have c1 := h1.cell 1 rfl
  have c2 := h2.hd.cell 1 rfl
  have e1 : (i : Int) < (S.length : Int) := by omega
  clear h1 h2 h3 hs hcm
  go_enter Tryd.func97, Tryd.ntmps97
  go_wp2
  go_ret
  exact ⟨rfl, rfl⟩

theorem rx_accept {w : World} {rb : Nat} {p : List Ins} {S : List DSt} (h : Rx w rb p S) {i c ns : Nat} {s : DSt} (hs : S[i]? = some s) (hc : c < 256) (hn : s.nx[c]? = some ns) : Calls Tryd.prog 95 #[.pointer (some ⟨rb, 0, none⟩), .int .i64 (i : Int), .int .u8 (c : Int)] w fun e w' => e = .returned (.int .i64 (ns : Int)) ∧ w = w' := by
  obtain ⟨rv, bb, db, mb, pv, B, M, kv, sv, D, h1, h2, h3⟩ := h
  have hi := (List.getElem?_eq_some_iff.1 hs).1
  have hmem := List.mem_of_getElem? hs
  obtain ⟨g, c', rfl, hc', hcm, hcell, -⟩ := own_cell h2.sts (flat_at hs 1 (by decide))
  have hnx := (h2.next s hmem).1.cell c (i64s_at hn)
  have c1 := h1.cell 1 rfl
  have c2 := h2.hd.cell 1 rfl
  have e1 : (i : Int) < (S.length : Int) := by omega
  have e2 : (c : Int) < 256 := by omega
  clear h1 h2 h3 hs hcm hmem hn
  go_enter Tryd.func95, Tryd.ntmps95
  go_wp2
  go_ret
  exact ⟨rfl, rfl⟩
end Go.Proofs.YtjeklnbfpehbeaaDoor

/- The walk of 'path' of package impl at an automaton of an expression: state by state, what matches, what can match. Condition: the text is at most 10^6 bytes. -/
namespace Go.Proofs.YtjeklnbfpehbeaaDoor
open Go.RowKit Go.Maps

def nxt (S : List DSt) (i c : Nat) : Nat := ((S[i]?).bind fun s => s.nx[c]?).getD 0
def mOf (S : List DSt) (i : Nat) : Bool := ((S[i]?).map DSt.m).getD false
/-- The state behind the first k bytes. -/
def stAt (S : List DSt) (bs : List Nat) (k : Nat) : Nat := (bs.take k).foldl (nxt S) 1

theorem Dfa.len {p : List Ins} {S : List DSt} (h : Dfa p S) : 1 < S.length := by
  obtain ⟨s, l0, h1, _⟩ := h.start
  exact (List.getElem?_eq_some_iff.1 h1).1
theorem Dfa.next {p : List Ins} {S : List DSt} (h : Dfa p S) {i c : Nat} (hi : i < S.length) (hc : c < 256) : ∃ (s : DSt) (ns : Nat), S[i]? = some s ∧ s.nx[c]? = some ns ∧ nxt S i c = ns ∧ ns < S.length := by
  rcases Nat.eq_zero_or_pos i with rfl | h0
  · obtain ⟨s, h1, _, _, h2⟩ := h.inv.zero
    have e : s.nx[c]? = some 0 := by rw [h2, List.getElem?_replicate, if_pos hc]
    exact ⟨s, 0, h1, e, by simp [nxt, h1, e], by omega⟩
  · obtain ⟨s, l', ns, h1, h2, h3, h4⟩ := h.step i c h0 hi hc
    refine ⟨s, ns, h1, h3, by simp [nxt, h1, h3], ?_⟩
    rcases h4 with ⟨_, rfl⟩ | ⟨_, _, s', h5, _⟩
    · omega
    · exact (List.getElem?_eq_some_iff.1 h5).1
theorem stAt_succ {S : List DSt} {bs : List Nat} {k c : Nat} (h : bs[k]? = some c) : stAt S bs (k + 1) = nxt S (stAt S bs k) c := by
  unfold stAt
  rw [take_snoc_getElem? h, List.foldl_append]
  rfl
theorem stAt_lt {p : List Ins} {S : List DSt} (h : Dfa p S) {bs : List Nat} (hb : ∀ b, b ∈ bs → b < 256) : ∀ k, k ≤ bs.length → stAt S bs k < S.length := by
  intro k
  induction k with
  | zero => intro _; simpa [stAt] using h.len
  | succ k ih =>
    intro hk
    have e : bs[k]? = some bs[k] := List.getElem?_eq_getElem (by omega)
    rw [stAt_succ e]
    obtain ⟨s, ns, _, _, h3, h4⟩ := h.next (ih (by omega)) (hb _ (List.getElem_mem (by omega : k < bs.length)))
    omega

def bools (l : List Bool) : List Value := l.map Value.bool
def bytesOf (t : ByteArray) : List Nat := t.data.toList.map UInt8.toNat
/-- What matches behind the first k bytes, for k up to n. -/
def msOf (S : List DSt) (bs : List Nat) (n : Nat) : List Bool := (List.range n).map fun k => mOf S (stAt S bs k)
def csOf (S : List DSt) (bs : List Nat) (n : Nat) : List Bool := (List.range n).map fun k => decide (1 ≤ stAt S bs k)

theorem meth_start (a : Addr) (w : World) : (method 304 39 (.pointer (some a)) "Start").run Tryd.prog w = .ok (98, .pointer (some a)) w := by kernel_rfl
theorem meth_accept (a : Addr) (w : World) : (method 304 39 (.pointer (some a)) "Accept").run Tryd.prog w = .ok (95, .pointer (some a)) w := by kernel_rfl
theorem meth_match (a : Addr) (w : World) : (method 304 39 (.pointer (some a)) "IsMatch").run Tryd.prog w = .ok (97, .pointer (some a)) w := by kernel_rfl
theorem meth_can (a : Addr) (w : World) : (method 304 39 (.pointer (some a)) "CanMatch").run Tryd.prog w = .ok (96, .pointer (some a)) w := by kernel_rfl
theorem meth_always (a : Addr) (w : World) : (method 304 39 (.pointer (some a)) "WillAlwaysMatch").run Tryd.prog w = .ok (99, .pointer (some a)) w := by kernel_rfl
theorem nil_accept (a : Addr) (w : World) : (nilAhead 304 39 (.pointer (some a)) "Accept").run Tryd.prog w = .ok (some false) w := by kernel_rfl

/-- The three lists under way. -/
structure PW (w0 w : World) (S : List DSt) (bs : List Nat) (k : Nat) (v1 v2 v3 : Value) : Prop where
  a1 : w.ownsRow w0.heap.size 4 1 v1 k (bools (msOf S bs k))
  a2 : w.ownsRow w0.heap.size 4 1 v2 k (bools (csOf S bs k))
  a3 : w.ownsRow w0.heap.size 4 1 v3 k (bools (List.replicate k false))
  n12 : ∀ b, v1.ownBlock = some b → v2.ownBlock ≠ some b
  n13 : ∀ b, v1.ownBlock = some b → v3.ownBlock ≠ some b
  n23 : ∀ b, v2.ownBlock = some b → v3.ownBlock ≠ some b
  fr : Fr (fun _ => False) w0 w

theorem PW.drew {w0 w : World} {S : List DSt} {bs : List Nat} {k : Nat} {v1 v2 v3 : Value} (h : PW w0 w S bs k v1 v2 v3) : PW w0 w.drew S bs k v1 v2 v3 :=
  ⟨h.a1.drew, h.a2.drew, h.a3.drew, h.n12, h.n13, h.n23, h.fr.drew⟩

theorem path_index (t : ByteArray) (k c : Nat) (h : (bytesOf t)[k]? = some c) (w : World) : (Instr.index 9 (.string t) (.int .i64 (k : Int))).run Tryd.prog w = .ok (.int .u8 (c : Int)) w := by
  have hk : t.data.toList[k]?.map UInt8.toNat = some c := by simpa [bytesOf] using h
  obtain ⟨b, hb, rfl⟩ := Option.map_eq_some_iff.1 hk
  have hb' : t[k]? = some b := by
    have h1 : t.data[k]? = some b := by simpa using hb
    have h2 := (Array.getElem?_eq_some_iff.1 h1)
    obtain ⟨hlt, he⟩ := h2
    have hlt' : k < t.size := hlt
    rw [getElem?_pos t k hlt']
    exact congrArg some he
  unfold Instr.index
  simp [asIntOf, run_underlying Tryd.underlying9, hb', Result.andThen]

theorem bools_snoc (l : List Bool) (b : Bool) : bools l ++ [.bool b] = bools (l ++ [b]) := by simp [bools]
theorem ms_succ (S : List DSt) (bs : List Nat) (k : Nat) : msOf S bs (k + 1) = msOf S bs k ++ [mOf S (stAt S bs k)] := by simp [msOf, List.range_succ]
theorem cs_succ (S : List DSt) (bs : List Nat) (k : Nat) : csOf S bs (k + 1) = csOf S bs k ++ [decide (1 ≤ stAt S bs k)] := by simp [csOf, List.range_succ]

/-- Another row is appended to: this one stays. -/
theorem own_beside {w w' : World} {base n : Nat} {e : TypeId} {size : Nat} {v u : Value} {xs : List Value} (h : w.ownsRow base e size v n xs) (hf : Fr (fun k => u.ownBlock = some k) w w') (hn : ∀ b, u.ownBlock = some b → v.ownBlock ≠ some b) : w'.ownsRow base e size v n xs :=
  own_fr h hf (fun b hb e => hn b e hb)
theorem new_apart {w : World} {base n : Nat} {e : TypeId} {size : Nat} {v u u' : Value} {xs : List Value} (h : w.ownsRow base e size v n xs) (ha : u'.ownBlock = u.ownBlock ∨ ∃ b, u'.ownBlock = some b ∧ w.heap.size ≤ b) (hn : ∀ b, u.ownBlock = some b → v.ownBlock ≠ some b) : ∀ b, u'.ownBlock = some b → v.ownBlock ≠ some b := by
  intro b hb hv
  rcases ha with e | ⟨c, e, hge⟩
  · exact hn b (e.symm.trans hb) hv
  · rw [e] at hb; injection hb with hb
    have := (own_lt' h hv).2
    omega
theorem apart_symm {u v : Value} (h : ∀ b, u.ownBlock = some b → v.ownBlock ≠ some b) : ∀ b, v.ownBlock = some b → u.ownBlock ≠ some b := fun b hb e => h b e hb

set_option maxRecDepth 100000 in
set_option maxHeartbeats 1000000 in
theorem path_calls {w : World} {rb : Nat} {p : List Ins} {S : List DSt} (h : Rx w rb p S) (t : ByteArray) (ht : t.size ≤ 1000000) :
    Calls Tryd.prog 20 #[.iface 39 (.pointer (some ⟨rb, 0, none⟩)), .string t] w fun e w' => ∃ v1 v2 v3, e = .returned (.tuple #[v1, v2, v3]) ∧ PW w w' S (bytesOf t) (t.size + 1) v1 v2 v3 := by
  have m1 := meth_start ⟨rb, 0, none⟩
  have m2 := meth_accept ⟨rb, 0, none⟩
  have m3 := meth_match ⟨rb, 0, none⟩
  have m4 := meth_can ⟨rb, 0, none⟩
  have m5 := meth_always ⟨rb, 0, none⟩
  have m6 := nil_accept ⟨rb, 0, none⟩
  have hlen : (bytesOf t).length = t.size := by simp [bytesOf]
  have hby : ∀ b, b ∈ bytesOf t → b < 256 := by
    intro b hb
    simp only [bytesOf, List.mem_map] at hb
    obtain ⟨x, _, rfl⟩ := hb
    exact x.toNat_lt
  have hd := h.dfa
  have HH := Lib.hid h
  clear h
  go_enter Tryd.func20, Tryd.ntmps20
  go_wp2_with (go_at_call 98; refine rx_start.mono ?_; rintro e w' ⟨rfl, rfl⟩)
  go_loopg [4, 5, 6, 7, 8] (t.size + 1) (fun g v1 v2 v3 s i wr => ∃ k : Nat, k ≤ t.size ∧ g = t.size - k + 1 ∧ i = .int .i64 (k : Int) ∧ s = .int .i64 (stAt S (bytesOf t) k : Int) ∧ PW w wr S (bytesOf t) k v1 v2 v3)
  case atStart => exact ⟨0, Nat.zero_le _, by omega, rfl, rfl, ⟨World.ownsRow_nil _ _ _ _, World.ownsRow_nil _ _ _ _, World.ownsRow_nil _ _ _ _, by simp [Value.ownBlock], by simp [Value.ownBlock], by simp [Value.ownBlock], Fr.refl _ _⟩⟩
  case round =>
    obtain ⟨k, hk, hg, rfl, rfl, hpw⟩ := hrel
    have hi := stAt_lt hd hby k (by omega)
    have hrx := HH.out.drop hpw.fr
    obtain ⟨st, hst⟩ : ∃ st, S[stAt S (bytesOf t) k]? = some st := ⟨_, List.getElem?_eq_getElem hi⟩
    have q1 := rx_match hrx hst
    obtain ⟨p1, p2, p3, p12, p13, p23, pfr⟩ := hpw
    have hB : w.heap.size ≤ wr.heap.size := pfr.size
    have el : (((k : Nat) : Int) == ((t.size : Nat) : Int)) = decide (k = t.size) := by
      by_cases e : k = t.size
      · subst e; simp
      · rw [decide_eq_false e, beq_eq_false_iff_ne]; omega
    have HP := Lib.hid (And.intro hrx (And.intro hst hi))
    clear hrx hst hi
    go_wp2_with (first
      | (go_at_call 97; refine q1.mono ?_; rintro e w' ⟨rfl, rfl⟩)
      | (at_builtin; refine app1 _ rfl _ _ 30 rfl w.heap.size 4 (.bool false) 1 1 Tryd.underlying30 (by kernel_rfl) rfl (by decide) u4 k (bools (msOf S (bytesOf t) k)) [.bool st.m] rfl rfl p1 rfl (by simp [Value.oneCell']) (by omega) (by decide) hB ?_; intro v4 w4 ho4 hf4 hn4)
      | fail)
    obtain ⟨hrx, hst, hi⟩ := HP.out
    have f4 : Fr (fun _ => False) w w4 := pfr.trans hf4 (fun b hlt e => by have := (own_lt' p1 e).1; omega)
    have p2' := own_beside p2 hf4 p12
    have p3' := own_beside p3 hf4 p13
    have n12 := new_apart p2 hn4 p12
    have n13 := new_apart p3 hn4 p13
    have hB4 : w.heap.size ≤ w4.heap.size := f4.size
    have q2 := rx_can (HH.out.drop f4) hi
    have HP4 := Lib.hid (And.intro ho4 (And.intro n12 (And.intro n13 (And.intro p3' f4))))
    clear hrx p1 p2 p3 p12 p13 pfr hf4 hn4 ho4 p3' n12 n13 f4 hi q1
    go_wp2_with (first
      | (go_at_call 96; refine q2.mono ?_; rintro e w' ⟨rfl, rfl⟩)
      | (at_builtin; refine app1 _ rfl _ _ 30 rfl w.heap.size 4 (.bool false) 1 1 Tryd.underlying30 (by kernel_rfl) rfl (by decide) u5 k (bools (csOf S (bytesOf t) k)) [.bool (decide (1 ≤ stAt S (bytesOf t) k))] rfl rfl p2' rfl (by simp [Value.oneCell']) (by omega) (by decide) hB4 ?_; intro v5 w5 ho5 hf5 hn5)
      | fail)
    obtain ⟨ho4, n12, n13, p3', f4⟩ := HP4.out
    have f5 : Fr (fun _ => False) w w5 := f4.trans hf5 (fun b hlt e => by have := (own_lt' p2' e).1; omega)
    have ho4' := own_beside ho4 hf5 (apart_symm n12)
    have p3'' := own_beside p3' hf5 p23
    have n12' := new_apart ho4 hn5 (apart_symm n12)
    have n23' := new_apart p3' hn5 p23
    have hB5 : w.heap.size ≤ w5.heap.size := f5.size
    have HP5 := Lib.hid (And.intro ho4' (And.intro ho5 (And.intro n12' (And.intro n23' (And.intro n13 f5)))))
    clear ho4 n12 n13 p3' f4 p2' hf5 hn5 ho5 f5 ho4' n12' n23' p23 q2
    have hdone : ∀ v6 w6, w6.ownsRow w.heap.size 4 1 v6 (k + 1) (bools (List.replicate k false) ++ [.bool false]) → Fr (fun b => u6.ownBlock = some b) w5 w6 → (v6.ownBlock = u6.ownBlock ∨ ∃ b, v6.ownBlock = some b ∧ w5.heap.size ≤ b) → PW w w6 S (bytesOf t) (k + 1) v4 v5 v6 := by
      intro v6 w6 ho6 hf6 hn6
      obtain ⟨ho4', ho5, n12', n23', n13, f5⟩ := HP5.out
      have emm : mOf S (stAt S (bytesOf t) k) = st.m := by simp [mOf, hst]
      have er : bools (List.replicate k false) ++ [.bool false] = bools (List.replicate (k + 1) false) := by rw [bools_snoc, List.replicate_succ']
      have n23s := new_apart ho5 hn6 (apart_symm n23')
      have n13s := new_apart ho4' hn6 (apart_symm n13)
      rw [bools_snoc, ← emm, ← ms_succ] at ho4'
      rw [bools_snoc, ← cs_succ] at ho5
      rw [er] at ho6
      exact ⟨own_beside ho4' hf6 (apart_symm n13), own_beside ho5 hf6 (apart_symm n23'), ho6, apart_symm n12', apart_symm n13s, apart_symm n23s, f5.trans hf6 (fun b hlt e => by have := (own_lt' p3'' e).1; omega)⟩
    have HD := Lib.hid hdone
    clear hdone
    by_cases hke : k = t.size
    · rw [decide_eq_true hke] at el
      go_wp2_with (first
        | (go_at_call 99; refine rx_always.mono ?_; rintro e w' ⟨rfl, rfl⟩)
        | (at_builtin; refine app1 _ rfl _ _ 30 rfl w.heap.size 4 (.bool false) 1 1 Tryd.underlying30 (by kernel_rfl) rfl (by decide) u6 k (bools (List.replicate k false)) [.bool false] rfl rfl p3'' rfl (by simp [Value.oneCell']) (by omega) (by decide) hB5 ?_; intro v6 w6 ho6 hf6 hn6)
        | fail)
      go_ret3
      have hres := HD.out v6 w6 ho6 hf6 hn6
      rw [hke] at hres
      exact ⟨v4, v5, v6, rfl, hres⟩
    · rw [decide_eq_false hke] at el
      obtain ⟨c, hc⟩ : ∃ c, (bytesOf t)[k]? = some c := ⟨_, List.getElem?_eq_getElem (by omega)⟩
      have hidx := path_index t k c hc
      have hcb := hby c (List.mem_of_getElem? hc)
      have hss := stAt_succ (S := S) hc
      obtain ⟨st', ns, hst', hnx, hnn, hnl⟩ := hd.next (stAt_lt hd hby k (by omega)) hcb
      have hacc : ∀ W, Fr (fun _ => False) w W → Calls Tryd.prog 95 #[.pointer (some ⟨rb, 0, none⟩), .int .i64 (stAt S (bytesOf t) k : Int), .int .u8 (c : Int)] W fun e w' => e = .returned (.int .i64 (ns : Int)) ∧ W = w' := fun W hf => rx_accept (HH.out.drop hf) hst' hcb hnx
      have hstk : stAt S (bytesOf t) (k + 1) = ns := hss.trans hnn
      have ew : IntKind.i64.wrap ((k : Int) + 1) = (k : Int) + 1 := IntWalk.i64_in _ (by omega)
      have HC := Lib.hid hacc
      clear hacc hst' hnx hc
      go_wp2_with (first
        | (go_at_call 99; refine rx_always.mono ?_; rintro e w' ⟨rfl, rfl⟩)
        | (at_builtin; refine app1 _ rfl _ _ 30 rfl w.heap.size 4 (.bool false) 1 1 Tryd.underlying30 (by kernel_rfl) rfl (by decide) u6 k (bools (List.replicate k false)) [.bool false] rfl rfl p3'' rfl (by simp [Value.oneCell']) (by omega) (by decide) hB5 ?_; intro v6 w6 ho6 hf6 hn6)
        | fail)
      have hpw := HD.out v6 w6 ho6 hf6 hn6
      have hacc := HC.out w6.drew hpw.fr.drew
      clear ho6 hf6 hn6
      go_region_with (go_at_call 95; refine hacc.mono ?_; rintro e w' ⟨rfl, rfl⟩)
      all_goals go_wp2_with fail
      all_goals
        go_roundg (t.size - (k + 1) + 1)
        case measure => omega
        case rel =>
          refine ⟨k + 1, by omega, rfl, by simp, ?_, hpw.drew⟩
          rw [hstk]
end Go.Proofs.YtjeklnbfpehbeaaDoor
