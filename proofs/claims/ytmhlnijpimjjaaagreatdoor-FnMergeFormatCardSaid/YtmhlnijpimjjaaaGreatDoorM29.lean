/- The merge iterator in memory, and the plain law of its lowest key. Condition: the maps have no empty key. append of nothing to a slice of pairs; append as one step of a region that draws. No condition. The merge iterator's choice of the lowest key: the values' law. Condition: none. The law's maps: each set's map, without the empty key. Condition: sizes below 2^31. The law's maps of sets (f5). Condition: sizes below 2^31. -/
import Derived.Test.YtmhlnijpimjjaaaGreatDoorM26
import Derived.Test.YtmhlnijpimjjaaaGreatDoorM28
import Derived.Test.YtmhlnijpimjjaaaGreatDoorM03
import Derived.Test.YtmhlnijpimjjaaaGreatDoorM27
set_option linter.unusedSimpArgs false
set_option linter.unusedVariables false
namespace Go.Proofs.YtmhlnijpimjjaaaGreatDoor
section
open Go.RowKit Fmt
/-- A map that is gone through. -/
structure Mi where
 ib : Nat
 fb : Nat
 db : Nat
 gd : Nat
 cap : Nat
 root : Nat
 L : Prs
 D : List Nat
 B : List Nat
/-- The colour of the i-th iterator. -/
def kc (i : Nat) : Nat := 100 + 10 * i
def MiSt (w : World) (col : Col) (i : Nat) (m : Mi) : Prs → Prop
 | [] => ItEnd w col (kc i) m.ib m.fb m.db m.gd m.cap m.L m.D m.B m.root
 | p :: L1 => ItAt w col (kc i) m.ib m.fb m.db m.gd m.cap m.L m.D m.B m.root p.1 p.2 L1
structure MiAt (w : World) (col : Col) (i : Nat) (m : Mi) (gone rest : Prs) : Prop where
 st : MiSt w col i m rest
 all : m.L = gone ++ rest
 srt : Srt m.L
 key : ∀ p, p ∈ m.L → p.1.length ≤ 1048576
 byt : ∀ p, p ∈ m.L → ∀ x, x ∈ p.1 → x < 256
 ne : ∀ p, p ∈ m.L → p.1 ≠ []
 val : ∀ p, p ∈ m.L → p.2 < 18446744073709551616
/-- A key that lies in an iterator's row. -/
def KeyVal (w : World) (col : Col) (i : Nat) (v : Value) (k : List Nat) : Prop :=
 ∃ g c1, v = .slice (some ⟨g, 0, none⟩) k.length c1 ∧ Byts w g 0 k ∧ g < w.heap.size ∧ col g = kc i + 2 ∧ k.length ≤ c1 ∧ c1 ≤ maxLen
def KeyAt (w : World) (col : Col) (i : Nat) (v u : Value) : Prs → Prop
 | [] => v = .slice none 0 0 ∧ u = .int .u64 0
 | p :: _ => KeyVal w col i v p.1 ∧ u = .int .u64 (p.2 : Int)
section
variable {w w1 : World} {C : Nat → Prop} {col col1 : Col}
theorem KeyVal.kp {i : Nat} {v : Value} {k : List Nat} (h : KeyVal w col i v k) (hk : Kp C col w col1 w1) (hn : ¬ C (kc i + 2)) : KeyVal w1 col1 i v k := by
 obtain ⟨g, c1, rfl, h1, h2, h3, h4⟩ := h
 exact ⟨g, c1, rfl, h1.kp hk (by rw [h3]; exact hn), Nat.lt_of_lt_of_le h2 hk.size, (hk.same _ h2).trans h3, h4⟩
theorem KeyVal.sby {i : Nat} {v : Value} {k : List Nat} (h : KeyVal w col i v k) : Sby w v k := by
 obtain ⟨g, c1, rfl, h1, _⟩ := h
 exact .inl ⟨g, 0, c1, rfl, h1⟩
theorem KeyAt.kp {i : Nat} {v u : Value} : ∀ {rest : Prs}, KeyAt w col i v u rest → Kp C col w col1 w1 → ¬ C (kc i + 2) → KeyAt w1 col1 i v u rest
 | [], h, _, _ => h
 | p :: _, h, hk, hn => ⟨h.1.kp hk hn, h.2⟩
theorem MiSt.kp {i : Nat} {m : Mi} : ∀ {rest : Prs}, MiSt w col i m rest → Kp C col w col1 w1 → (∀ d, kc i ≤ d → d ≤ kc i + 7 → ¬ C d) → ¬ C 0 → MiSt w1 col1 i m rest
 | [], h, hk, hn, h0 => ItEnd.kp h hk hn h0
 | p :: _, h, hk, hn, h0 => ItAt.kp h hk hn h0
theorem MiAt.kp {i : Nat} {m : Mi} {gone rest : Prs} (h : MiAt w col i m gone rest) (hk : Kp C col w col1 w1) (hn : ∀ d, kc i ≤ d → d ≤ kc i + 7 → ¬ C d) (h0 : ¬ C 0) : MiAt w1 col1 i m gone rest :=
 { h with st := h.st.kp hk hn h0 }
/-- Current at an iterator. -/
theorem MiAt.cur {i : Nat} {m : Mi} {gone rest : Prs} (h : MiAt w col i m gone rest) : ∃ v u, Calls Tryz.prog 128 #[.pointer (some ⟨m.ib, 0, none⟩)] w (fun e w' => e = .returned (.tuple #[v, u]) ∧ Fr (fun _ => False) w w') ∧ KeyAt w col i v u rest := by
 cases rest with
 | nil => exact ⟨_, _, ItEnd.cur h.st h.ne, rfl, rfl⟩
 | cons p L1 =>
  have hm : p ∈ m.L := by rw [h.all]; simp
  obtain ⟨g, c1, h1, h2, h3, h4, h5⟩ := ItAt.cur h.st h.ne (h.val p hm)
  have hk0 : 0 < p.1.length := List.length_pos_iff.2 (h.ne p hm)
  obtain ⟨x, hx⟩ : ∃ x, p.1[0]? = some x := ⟨_, List.getElem?_eq_getElem hk0⟩
  exact ⟨_, _, h5, ⟨g, c1, rfl, h1, World.block_lt_of_cell? w _ (h1.at_ 0 x hx), h2, h3, h4⟩, rfl⟩
/-- Next at an iterator. -/
theorem MiAt.next {i : Nat} {m : Mi} {gone : Prs} {p : List Nat × Nat} {L1 : Prs} {T : TypeId} {ea : Addr} (h : MiAt w col i m gone (p :: L1)) (hT : Tabs w col) (hD : Done w col T ea) :
  Calls Tryz.prog 130 #[.pointer (some ⟨m.ib, 0, none⟩)] w fun e w' => ∃ col', Kp (itc (kc i)) col w col' w' ∧ (e = .returned .nilIface ∨ e = .returned (.iface T (.pointer (some ea)))) ∧ MiAt w' col' i m (gone ++ [p]) L1 := by
 have hs := h.srt
 unfold Srt at hs
 rw [h.all, List.pairwise_append, List.pairwise_cons] at hs
 refine (ItAt.next h.st hT hD h.key h.ne (fun q hq => hs.2.1.1 q hq)).mono ?_
 rintro e w' ⟨col', hK, hq⟩
 refine ⟨col', hK, ?_, ?_⟩
 ·rcases hq with ⟨_, e1, _⟩ | ⟨_, _, _, _, e1, _⟩
  ·exact .inr e1
  ·exact .inl e1
 ·have ha : m.L = (gone ++ [p]) ++ L1 := by rw [h.all]; simp
  refine { h with st := ?_, all := ha }
  rcases hq with ⟨rfl, _, e1⟩ | ⟨k, o, L2, rfl, _, e1⟩
  ·exact e1
  ·exact e1
end
/-- What the merge iterator's fields hold. -/
structure MD where
 iv : Value
 iF : List Value
 kb : Nat
 vb : Nat
 Ks : List Value
 Vs : List Value
 lk : Value
 lv : Nat
 li : Value
 ix : List Nat
 liF : List Value
 mv : Value
 mn : Nat
 mF : List Value
def mcells (N how : Nat) (d : MD) : List Value := [d.iv, .func (.func (fnOf how)) #[] #[], .slice (some ⟨d.kb, 0, none⟩) N N, .slice (some ⟨d.vb, 0, none⟩) N N, d.lk, .int .u64 (d.lv : Int), d.li, d.mv]
structure Mg (w : World) (col : Col) (mb how : Nat) (ms : List Mi) (ps : List (Prs × Prs)) (fr : Nat → Prop) (d : MD) : Prop where
 blk : BlkC w col 50 mb (mcells ms.length how d) 105
 itr : RowC w col 55 121 1 d.iv ms.length d.iF
 iat : ∀ (i : Nat) (m : Mi), ms[i]? = some m → d.iF[i]? = some (.iface 75 (.pointer (some ⟨m.ib, 0, none⟩)))
 len : ps.length = ms.length
 its : ∀ (i : Nat) (m : Mi) (p : Prs × Prs), ms[i]? = some m → ps[i]? = some p → MiAt w col i m p.1 p.2
 ks : BlkC w col 51 d.kb d.Ks 29
 kl : d.Ks.length = ms.length
 vs : BlkC w col 52 d.vb d.Vs 40
 vl : d.Vs.length = ms.length
 fre : ∀ (i : Nat) (p : Prs × Prs), fr i → ps[i]? = some p → ∃ v u, d.Ks[i]? = some v ∧ d.Vs[i]? = some u ∧ KeyAt w col i v u p.2
 li : RowC w col 53 3 1 d.li d.ix.length d.liF
 lat : ∀ (j x : Nat), d.ix[j]? = some x → d.liF[j]? = some (.int .i64 (x : Int))
 mv : RowC w col 54 40 1 d.mv d.mn d.mF
/-- The colours of the merge iterator's own parts, and those of its iterators. -/
def cmi (d : Nat) : Prop := 50 ≤ d ∧ d ≤ 54
def cmg (d : Nat) : Prop := 50 ≤ d
section
variable {w w1 : World} {C : Nat → Prop} {col col1 : Col} {mb how : Nat} {ms : List Mi} {ps : List (Prs × Prs)} {fr : Nat → Prop} {d : MD}
theorem Mg.kp (h : Mg w col mb how ms ps fr d) (k : Kp C col w col1 w1) (hn : ∀ c, 50 ≤ c → ¬ C c) (h0 : ¬ C 0) : Mg w1 col1 mb how ms ps fr d :=
 { h with
   blk := h.blk.kp k (hn _ (by decide))
   itr := h.itr.kp k (hn _ (by decide))
   its := fun i m p h1 h2 => (h.its i m p h1 h2).kp k (fun c h3 _ => hn c (by unfold kc at h3; omega)) h0
   ks := h.ks.kp k (hn _ (by decide))
   vs := h.vs.kp k (hn _ (by decide))
   fre := fun i p h1 h2 => by
    obtain ⟨v, u, e1, e2, e3⟩ := h.fre i p h1 h2
    exact ⟨v, u, e1, e2, e3.kp k (hn _ (by unfold kc; omega))⟩
   li := h.li.kp k (hn _ (by decide))
   mv := h.mv.kp k (hn _ (by decide)) }
/-- The core and the two short rows change. -/
theorem Mg.chg (h : Mg w col mb how ms ps fr d) (k : Kp C col w col1 w1) (hC : ∀ c, C c → c = 50 ∨ c = 53 ∨ c = 54) (d' : MD) (he : d'.iv = d.iv ∧ d'.iF = d.iF ∧ d'.kb = d.kb ∧ d'.vb = d.vb ∧ d'.Ks = d.Ks ∧ d'.Vs = d.Vs)
  (hb : Blk w1 mb (mcells ms.length how d') 105) (hli : RowC w1 col1 53 3 1 d'.li d'.ix.length d'.liF) (hlat : ∀ (j x : Nat), d'.ix[j]? = some x → d'.liF[j]? = some (.int .i64 (x : Int))) (hmv : RowC w1 col1 54 40 1 d'.mv d'.mn d'.mF) : Mg w1 col1 mb how ms ps fr d' := by
 obtain ⟨e1, e2, e3, e4, e5, e6⟩ := he
 have hn : ∀ c, c = 51 ∨ c = 52 ∨ c = 55 ∨ 100 ≤ c ∨ c = 0 → ¬ C c := fun c hc hh => by rcases hC c hh with e | e | e <;> omega
 exact
 { blk := ⟨hb, (k.same _ h.blk.lt).trans h.blk.col⟩
   itr := by rw [e1, e2]; exact h.itr.kp k (hn _ (by omega))
   iat := by rw [e2]; exact h.iat
   len := h.len
   its := fun i m p h1 h2 => (h.its i m p h1 h2).kp k (fun c h3 _ => hn c (by unfold kc at h3; omega)) (hn 0 (by omega))
   ks := by rw [e3, e5]; exact h.ks.kp k (hn _ (by omega))
   kl := by rw [e5]; exact h.kl
   vs := by rw [e4, e6]; exact h.vs.kp k (hn _ (by omega))
   vl := by rw [e6]; exact h.vl
   fre := fun i p h1 h2 => by
    obtain ⟨v, u, q1, q2, q3⟩ := h.fre i p h1 h2
    rw [e5, e6]
    exact ⟨v, u, q1, q2, q3.kp k (hn _ (by unfold kc; omega))⟩
   li := hli
   lat := hlat
   mv := hmv }
theorem Mg.low (h : Mg w col mb how ms ps fr d) (v : Value) : Mg (w.setCell ⟨mb, 4, none⟩ v) col mb how ms ps fr { d with lk := v } ∧ Kp (fun c => c = 50) col w col (w.setCell ⟨mb, 4, none⟩ v) := by
 have k : Kp (fun c => c = 50) col w col (w.setCell ⟨mb, 4, none⟩ v) := (Kp.refl _ col w).set v h.blk.col
 exact ⟨h.chg k (fun c e => .inl e) _ ⟨rfl, rfl, rfl, rfl, rfl, rfl⟩ (h.blk.blk.set 4 v) (h.li.kp k (by decide)) h.lat (h.mv.kp k (by decide)), k⟩
theorem Mg.lowv (h : Mg w col mb how ms ps fr d) (n : Nat) : Mg (w.setCell ⟨mb, 5, none⟩ (.int .u64 (n : Int))) col mb how ms ps fr { d with lv := n } ∧ Kp (fun c => c = 50) col w col (w.setCell ⟨mb, 5, none⟩ (.int .u64 (n : Int))) := by
 have k : Kp (fun c => c = 50) col w col (w.setCell ⟨mb, 5, none⟩ (.int .u64 (n : Int))) := (Kp.refl _ col w).set _ h.blk.col
 exact ⟨h.chg k (fun c e => .inl e) _ ⟨rfl, rfl, rfl, rfl, rfl, rfl⟩ (h.blk.blk.set 5 _) (h.li.kp k (by decide)) h.lat (h.mv.kp k (by decide)), k⟩
theorem Mg.cutIx (h : Mg w col mb how ms ps fr d) {A : Option Addr} {c : Nat} (hv : d.li = .slice A d.ix.length c) : Mg (w.setCell ⟨mb, 6, none⟩ (.slice A 0 c)) col mb how ms ps fr { d with li := .slice A 0 c, ix := [] } ∧ Kp (fun c => c = 50) col w col (w.setCell ⟨mb, 6, none⟩ (.slice A 0 c)) := by
 have k : Kp (fun c => c = 50) col w col (w.setCell ⟨mb, 6, none⟩ (.slice A 0 c)) := (Kp.refl _ col w).set _ h.blk.col
 have hr := h.li.kp k (by decide)
 refine ⟨h.chg k (fun c e => .inl e) _ ⟨rfl, rfl, rfl, rfl, rfl, rfl⟩ (h.blk.blk.set 6 _) ⟨hr.row.cut (Nat.zero_le _) A c hv, fun q hq => hr.col q (by rw [hv]; revert hq; cases A <;> exact id)⟩ (fun j x hx => by simp at hx) (h.mv.kp k (by decide)), k⟩
theorem Mg.cutMv (h : Mg w col mb how ms ps fr d) {A : Option Addr} {c : Nat} (hv : d.mv = .slice A d.mn c) : Mg (w.setCell ⟨mb, 7, none⟩ (.slice A 0 c)) col mb how ms ps fr { d with mv := .slice A 0 c, mn := 0 } ∧ Kp (fun c => c = 50) col w col (w.setCell ⟨mb, 7, none⟩ (.slice A 0 c)) := by
 have k : Kp (fun c => c = 50) col w col (w.setCell ⟨mb, 7, none⟩ (.slice A 0 c)) := (Kp.refl _ col w).set _ h.blk.col
 have hr := h.mv.kp k (by decide)
 refine ⟨h.chg k (fun c e => .inl e) _ ⟨rfl, rfl, rfl, rfl, rfl, rfl⟩ (h.blk.blk.set 7 _) (h.li.kp k (by decide)) h.lat ⟨hr.row.cut (Nat.zero_le _) A c hv, fun q hq => hr.col q (by rw [hv]; revert hq; cases A <;> exact id)⟩, k⟩
theorem AppF.of {F F' : List Value} {n : Nat} {x z : Value} {v v' : Value} {P : Prop} (hc : (v'.ownBlock = v.ownBlock ∧ F' = F.take (n * 1) ++ [x] ++ F.drop ((n + 1) * 1)) ∨ (P ∧ ∃ k, F' = F.take (n * 1) ++ [x] ++ zeros #[z] k)) : AppF F n x F' z := by
 rcases hc with ⟨_, e⟩ | ⟨_, k, e⟩
 ·left; rw [e, Nat.mul_one, Nat.mul_one]
 ·right; exact ⟨k, by rw [e, Nat.mul_one, zeros_one]⟩
/-- An index was appended, and the slice is stored. -/
theorem Mg.appIx (h : Mg w col mb how ms ps fr d) {v' : Value} {F' : List Value} (x : Nat) (hr : RowF w1 3 1 v' (d.ix.length + 1) F') (hF : Fr (fun q => d.li.ownBlock = some q) w w1)
  (hc : (v'.ownBlock = d.li.ownBlock ∧ F' = d.liF.take (d.ix.length * 1) ++ [.int .i64 (x : Int)] ++ d.liF.drop ((d.ix.length + 1) * 1)) ∨ ((∃ b', v'.ownBlock = some b' ∧ w.heap.size ≤ b') ∧ ∃ k, F' = d.liF.take (d.ix.length * 1) ++ [.int .i64 (x : Int)] ++ zeros #[.int .i64 0] k)) :
  Mg (w1.setCell ⟨mb, 6, none⟩ v') (paint w.heap.size 53 col) mb how ms ps fr { d with li := v', ix := d.ix ++ [x], liF := F' } ∧ Kp (fun c => c = 50 ∨ c = 53) col w (paint w.heap.size 53 col) (w1.setCell ⟨mb, 6, none⟩ v') := by
 have ha := AppF.of hc
 have K3 : Kp (fun d => d = 53) col w (paint w.heap.size 53 col) w1 := Kp.of hF 53 (fun q _ e => h.li.col q e) rfl
 have hmb : paint w.heap.size 53 col mb = 50 := (paint_lt h.blk.lt).trans h.blk.col
 have k : Kp (fun c => c = 50 ∨ c = 53) col w (paint w.heap.size 53 col) (w1.setCell ⟨mb, 6, none⟩ v') := (K3.mono fun d e => .inr e).set v' (.inl hmb)
 have hcol : ∀ q, v'.ownBlock = some q → paint w.heap.size 53 col q = 53 := by
  intro q hq
  rcases hc with ⟨e, _⟩ | ⟨⟨b', e, hb'⟩, _⟩
  ·rw [e] at hq
   rw [paint_lt (h.li.row.lt hq)]; exact h.li.col q hq
  ·rw [e] at hq
   injection hq with hq
   subst hq
   exact paint_ge hb'
 have hne : ∀ q, v'.ownBlock = some q → ¬ q = mb := fun q hq e => by have := hcol q hq; rw [e, hmb] at this; omega
 have hfs : Fr (fun q => q = mb) w1 (w1.setCell ⟨mb, 6, none⟩ v') := (Fr.refl (fun q => q = mb) w1).put1 6 v'
 obtain ⟨A, cp, e1, e2, e3, e4⟩ := h.li.row.slc
 have hl : d.ix.length ≤ d.liF.length := by rw [e4]; omega
 refine ⟨h.chg k (fun c e => by omega) _ ⟨rfl, rfl, rfl, rfl, rfl, rfl⟩ ((h.blk.kp K3 (by decide)).blk.set 6 v') ⟨?_, hcol⟩ ?_ (h.mv.kp k (by decide)), k⟩
 ·simp only [List.length_append, List.length_cons, List.length_nil]
  exact hr.fr hfs hne
 ·intro j y hy
  simp only at hy ⊢
  rcases Nat.lt_or_ge j d.ix.length with hlt | hge
  ·rw [List.getElem?_append_left hlt] at hy
   rw [ha.lt hl hlt]; exact h.lat j y hy
  ·rw [List.getElem?_append_right hge] at hy
   have hj : j = d.ix.length := by
    have := (List.getElem?_eq_some_iff.1 hy).1; simp at this; omega
   subst hj
   simp at hy
   subst hy
   exact ha.at_ hl
/-- A value was appended to mergeV, and the slice is stored. -/
theorem Mg.appMv (h : Mg w col mb how ms ps fr d) {v' : Value} {F' : List Value} {x : Value} (hr : RowF w1 40 1 v' (d.mn + 1) F') (hF : Fr (fun q => d.mv.ownBlock = some q) w w1)
  (hc : (v'.ownBlock = d.mv.ownBlock ∧ F' = d.mF.take (d.mn * 1) ++ [x] ++ d.mF.drop ((d.mn + 1) * 1)) ∨ ((∃ b', v'.ownBlock = some b' ∧ w.heap.size ≤ b') ∧ ∃ k, F' = d.mF.take (d.mn * 1) ++ [x] ++ zeros #[.int .u64 0] k)) :
  Mg (w1.setCell ⟨mb, 7, none⟩ v') (paint w.heap.size 54 col) mb how ms ps fr { d with mv := v', mn := d.mn + 1, mF := F' } ∧ Kp (fun c => c = 50 ∨ c = 54) col w (paint w.heap.size 54 col) (w1.setCell ⟨mb, 7, none⟩ v') ∧ AppF d.mF d.mn x F' (.int .u64 0) ∧ d.mn ≤ d.mF.length := by
 have ha := AppF.of hc
 have K3 : Kp (fun d => d = 54) col w (paint w.heap.size 54 col) w1 := Kp.of hF 54 (fun q _ e => h.mv.col q e) rfl
 have hmb : paint w.heap.size 54 col mb = 50 := (paint_lt h.blk.lt).trans h.blk.col
 have k : Kp (fun c => c = 50 ∨ c = 54) col w (paint w.heap.size 54 col) (w1.setCell ⟨mb, 7, none⟩ v') := (K3.mono fun d e => .inr e).set v' (.inl hmb)
 have hcol : ∀ q, v'.ownBlock = some q → paint w.heap.size 54 col q = 54 := by
  intro q hq
  rcases hc with ⟨e, _⟩ | ⟨⟨b', e, hb'⟩, _⟩
  ·rw [e] at hq
   rw [paint_lt (h.mv.row.lt hq)]; exact h.mv.col q hq
  ·rw [e] at hq
   injection hq with hq
   subst hq
   exact paint_ge hb'
 have hne : ∀ q, v'.ownBlock = some q → ¬ q = mb := fun q hq e => by have := hcol q hq; rw [e, hmb] at this; omega
 have hfs : Fr (fun q => q = mb) w1 (w1.setCell ⟨mb, 7, none⟩ v') := (Fr.refl (fun q => q = mb) w1).put1 7 v'
 obtain ⟨A, cp, e1, e2, e3, e4⟩ := h.mv.row.slc
 exact ⟨h.chg k (fun c e => by omega) _ ⟨rfl, rfl, rfl, rfl, rfl, rfl⟩ ((h.blk.kp K3 (by decide)).blk.set 7 v') (h.li.kp k (by decide)) h.lat ⟨hr.fr hfs hne, hcol⟩, k, ha, by rw [e4]; omega⟩
end
/-- The indices of the maps whose first key is k. -/
def hix (k : List Nat) : Nat → List (Prs × Prs) → List Nat
 | _, [] => []
 | i, p :: ps => (match p.2 with
  | q :: _ => if q.1 = k then [i] else []
  | [] => []) ++ hix k (i + 1) ps
theorem hix_snoc (k : List Nat) : ∀ (ps : List (Prs × Prs)) (i : Nat) (p : Prs × Prs), hix k i (ps ++ [p]) = hix k i ps ++ (match p.2 with
  | q :: _ => if q.1 = k then [i + ps.length] else []
  | [] => [])
 | [], i, p => by simp [hix]
 | q :: ps, i, p => by
  simp only [List.cons_append, hix, hix_snoc k ps (i + 1) p, List.append_assoc, List.length_cons]
  rw [show i + 1 + ps.length = i + (ps.length + 1) by omega]
theorem hix_mem {k : List Nat} : ∀ {ps : List (Prs × Prs)} {i x : Nat}, x ∈ hix k i ps ↔ i ≤ x ∧ ∃ p q r, ps[x - i]? = some p ∧ p.2 = q :: r ∧ q.1 = k
 | [], i, x => by simp [hix]
 | p :: ps, i, x => by
  simp only [hix, List.mem_append]
  rw [hix_mem (ps := ps) (i := i + 1)]
  constructor
  ·rintro (h | ⟨h1, p', q, r, h2, h3⟩)
   ·obtain ⟨c, r⟩ := p
    cases r with
    | nil => simp at h
    | cons q r =>
     simp only at h
     split at h
     ·rename_i hq
      simp at h
      subst h
      exact ⟨Nat.le_refl _, (c, q :: r), q, r, by simp, rfl, hq⟩
     ·simp at h
   ·exact ⟨by omega, p', q, r, by rw [show x - i = (x - (i + 1)) + 1 by omega, List.getElem?_cons_succ]; exact h2, h3⟩
  ·rintro ⟨h1, p', q, r, h2, h3, h4⟩
   rcases Nat.eq_or_lt_of_le h1 with h5 | h5
   ·subst h5
    simp at h2
    subst h2
    left
    rw [h3]
    simp [h4]
   ·right
    rw [show x - i = (x - (i + 1)) + 1 by omega, List.getElem?_cons_succ] at h2
    exact ⟨by omega, p', q, r, h2, h3, h4⟩
/-- The values at these indices. -/
theorem hix_heads {k : List Nat} : ∀ {ps : List (Prs × Prs)} {i : Nat}, (hix k i ps).length = (heads k ps).length ∧ ∀ (j x v : Nat), (hix k i ps)[j]? = some x → (heads k ps)[j]? = some v → ∃ p r, i ≤ x ∧ ps[x - i]? = some p ∧ p.2 = (k, v) :: r
 | [], i => by simp [hix, heads]
 | p :: ps, i => by
  obtain ⟨h1, h2⟩ := hix_heads (k := k) (ps := ps) (i := i + 1)
  have hrest : ∀ (j x v : Nat), (hix k (i + 1) ps)[j]? = some x → (heads k ps)[j]? = some v → ∃ p' r, i ≤ x ∧ (p :: ps)[x - i]? = some p' ∧ p'.2 = (k, v) :: r := by
   intro j x v hx hv
   obtain ⟨p', r, q1, q2, q3⟩ := h2 j x v hx hv
   exact ⟨p', r, by omega, by rw [show x - i = (x - (i + 1)) + 1 by omega, List.getElem?_cons_succ]; exact q2, q3⟩
  obtain ⟨c, r⟩ := p
  have eh : heads k ((c, r) :: ps) = (match (generalizing := false) r with
   | q :: _ => if q.1 = k then [q.2] else []
   | [] => []) ++ heads k ps := rfl
  rw [eh]
  simp only [hix]
  cases r with
  | nil => simpa using And.intro h1 hrest
  | cons q r =>
   by_cases hq : q.1 = k
   ·simp only [if_pos hq]
    refine ⟨by simp [h1], fun j x v hx hv => ?_⟩
    cases j with
    | zero =>
     simp at hx hv
     subst hx; subst hv
     exact ⟨(c, q :: r), r, Nat.le_refl _, by simp, by rw [← hq]⟩
    | succ j =>
     simp only [List.singleton_append, List.getElem?_cons_succ] at hx hv
     exact hrest j x v hx hv
   ·simp only [if_neg hq, List.nil_append]
    exact ⟨h1, hrest⟩
/-- The lowest key of the first i maps and its indices. -/
def LowP (ps : List (Prs × Prs)) (i : Nat) : Option (List Nat) → List Nat → Prop
 | none, ix => ix = [0] ∧ ∀ p, p ∈ ps.take i → p.2 = []
 | some k, ix => ix = hix k 0 (ps.take i) ∧ ix ≠ [] ∧ ∀ p, p ∈ ps.take i → ∀ q r, p.2 = q :: r → q.1 = k ∨ klt k q.1
theorem take_snoc {α : Type} {l : List α} {i : Nat} {x : α} (h : l[i]? = some x) : l.take (i + 1) = l.take i ++ [x] := by rw [List.take_add_one, h]; rfl
theorem len_take {α : Type} {l : List α} {i : Nat} {x : α} (h : l[i]? = some x) : (l.take i).length = i := by
 have := (List.getElem?_eq_some_iff.1 h).1
 simp; omega
theorem LowP.skip {ps : List (Prs × Prs)} {i : Nat} {lk : Option (List Nat)} {ix : List Nat} {p : Prs × Prs} (h : LowP ps i lk ix) (hp : ps[i]? = some p) (he : p.2 = []) : LowP ps (i + 1) lk ix := by
 cases lk with
 | none =>
  obtain ⟨h1, h2⟩ := h
  refine ⟨h1, fun q hq => ?_⟩
  rw [take_snoc hp, List.mem_append, List.mem_singleton] at hq
  rcases hq with hq | rfl
  ·exact h2 q hq
  ·exact he
 | some k =>
  obtain ⟨h1, h2, h3⟩ := h
  refine ⟨?_, h2, fun q hq => ?_⟩
  ·rw [take_snoc hp, hix_snoc, he, List.append_nil]; exact h1
  ·rw [take_snoc hp, List.mem_append, List.mem_singleton] at hq
   rcases hq with hq | rfl
   ·exact h3 q hq
   ·intro a b hab; rw [he] at hab; cases hab
theorem LowP.new {ps : List (Prs × Prs)} {i : Nat} {lk : Option (List Nat)} {ix : List Nat} {p : Prs × Prs} {q : List Nat × Nat} {r : Prs} (h : LowP ps i lk ix) (hp : ps[i]? = some p) (he : p.2 = q :: r) (hl : ∀ k, lk = some k → klt q.1 k) : LowP ps (i + 1) (some q.1) [i] := by
 have hno : ∀ p', p' ∈ ps.take i → ∀ a b, p'.2 = a :: b → klt q.1 a.1 := by
  intro p' hp' a b hab
  cases lk with
  | none => have := h.2 p' hp'; rw [hab] at this; cases this
  | some k =>
   rcases h.2.2 p' hp' a b hab with e | e
   ·rw [e]; exact hl k rfl
   ·exact klt_trans (hl k rfl) e
 refine ⟨?_, by simp, fun p' hp' a b hab => ?_⟩
 ·rw [take_snoc hp, hix_snoc, he, len_take hp]
  simp only [if_true, Nat.zero_add]
  rw [show hix q.1 0 (ps.take i) = [] from ?_, List.nil_append]
  refine List.eq_nil_iff_forall_not_mem.2 fun x hx => ?_
  obtain ⟨_, p', a, b, h1, h2, h3⟩ := hix_mem.1 hx
  have := hno p' (List.mem_of_getElem? h1) a b h2
  rw [h3] at this
  exact klt_irrefl _ this
 ·rw [take_snoc hp, List.mem_append, List.mem_singleton] at hp'
  rcases hp' with hp' | rfl
  ·exact .inr (hno p' hp' a b hab)
  ·rw [he] at hab; cases hab; exact .inl rfl
theorem LowP.more {ps : List (Prs × Prs)} {i : Nat} {k : List Nat} {ix : List Nat} {p : Prs × Prs} {q : List Nat × Nat} {r : Prs} (h : LowP ps i (some k) ix) (hp : ps[i]? = some p) (he : p.2 = q :: r) (hk : q.1 = k) : LowP ps (i + 1) (some k) (ix ++ [i]) := by
 obtain ⟨h1, h2, h3⟩ := h
 refine ⟨?_, by simp, fun p' hp' a b hab => ?_⟩
 ·rw [take_snoc hp, hix_snoc, he, len_take hp, ← h1]
  simp [hk]
 ·rw [take_snoc hp, List.mem_append, List.mem_singleton] at hp'
  rcases hp' with hp' | rfl
  ·exact h3 p' hp' a b hab
  ·rw [he] at hab; cases hab; exact .inl hk
theorem LowP.pass {ps : List (Prs × Prs)} {i : Nat} {k : List Nat} {ix : List Nat} {p : Prs × Prs} {q : List Nat × Nat} {r : Prs} (h : LowP ps i (some k) ix) (hp : ps[i]? = some p) (he : p.2 = q :: r) (hk : klt k q.1) : LowP ps (i + 1) (some k) ix := by
 obtain ⟨h1, h2, h3⟩ := h
 have hne : ¬ q.1 = k := fun e => by rw [e] at hk; exact klt_irrefl _ hk
 refine ⟨?_, h2, fun p' hp' a b hab => ?_⟩
 ·rw [take_snoc hp, hix_snoc, he, ← h1]
  simp [hne]
 ·rw [take_snoc hp, List.mem_append, List.mem_singleton] at hp'
  rcases hp' with hp' | rfl
  ·exact h3 p' hp' a b hab
  ·rw [he] at hab; cases hab; exact .inr hk
theorem LowP.one {ps : List (Prs × Prs)} {p : Prs × Prs} (hp : ps[0]? = some p) : LowP ps 1 (p.2.head?.map fun q => q.1) [0] := by
 have e1 : ps.take 1 = [p] := by rw [take_snoc hp]; rfl
 cases hr : p.2 with
 | nil => exact ⟨rfl, fun q hq => by rw [e1, List.mem_singleton] at hq; subst hq; exact hr⟩
 | cons q r =>
  refine ⟨?_, by simp, fun p' hp' a b hab => ?_⟩
  ·rw [e1]; simp [hix, hr]
  ·rw [e1, List.mem_singleton] at hp'; subst hp'; rw [hr] at hab; cases hab; exact .inl rfl
end
section
open Go.RowKit
theorem app_none26 (w : World) (B : Option Addr) (n cB : Nat) (hn : n ≤ cB) (A : Option Addr) (c : Nat) : (Builtin.append_ #[26, 26] 26 #[.slice B n cB, .slice A 0 c]).run Tryz.prog w = .ok (.slice B n cB) w := by
 have h1 : (underlying 26).run Tryz.prog w = .ok (.slice 42) w := by kernel_rfl
 have h2 : (sizeOf 42).run Tryz.prog w = .ok 2 w := by kernel_rfl
 have h3 : ∀ A : Option Addr, (Builtin.lenOf (.slice A 0 c)).run Tryz.prog w = .ok 0 w := fun A => by cases A <;> kernel_rfl
 have h4 : ∀ A : Option Addr, (Builtin.firstCells 2 0 (.slice A 0 c)).run Tryz.prog w = .ok #[] w := fun A => by cases A <;> kernel_rfl
 have h5 : ∀ a : Addr, (storeCells a []).run Tryz.prog w = .ok () w := fun a => by kernel_rfl
 unfold Builtin.append_
 simp only [Sem.run_bind, Sem.run_pure, Result.andThen_ok, h1, h2, h3, h4, List.getElem?_toArray, List.getElem?_cons_zero, List.getElem?_cons_succ, Nat.add_zero, if_pos hn]
 cases B <;> simp [Sem.run_bind, Sem.run_pure, Result.andThen_ok, h1, h2, h3, h4, h5, hn]
section
variable {ops : Array Oper} {o : Oper} {rest : List Oper} {a : Act} {Q : Exit → Act → World → Prop} {w : World}
theorem wpList_app_none (hgd : o.guard = none) (s x : Operand) (ho : o.op = .call { callee := .builtin .append, args := #[s, x], argTypes := #[26, 26] }) (hty : o.type = 26) (B : Option Addr) (n cB : Nat) (hn : n ≤ cB) (A : Option Addr) (c : Nat) (hs : a.eval s = .slice B n cB) (hx : a.eval x = .slice A 0 c) (hk : wpList Tryz.prog ops Q rest (a.put o.dst (.slice B n cB)) w) : wpList Tryz.prog ops Q (o :: rest) a w := by
 have hr := app_none26 w B n cB hn A c
 refine wpList_plain hgd fun K hK => ?_
 unfold Oper.wp execOp
 simp only [ho, hty, resolve, invoke, builtin, Sem.run_bind, Sem.run_pure, Result.andThen_ok, List.map_toArray, List.map_cons, List.map_nil, hs, hx, hr]
 exact hK _ _ hk
/-- append(v, y), y laid into a block of its own just ahead, as one step. -/
theorem step_app1f {P : Program} {K : Act → World → Prop} (W : World) (hgd : o.guard = none) (s x : Operand) (t : TypeId) (ho : o.op = .call { callee := .builtin .append, args := #[s, x], argTypes := #[t, t] })
  (e : TypeId) (z : Value) (size bytes : Nat) (ht : P.underlying t = some (.slice e)) (hinfo : (P.info? e).map (fun i => (i.zero, i.size, i.bytes)) = some (some z, size, bytes)) (hzs : z.cells.size = size)
  (v : Value) (n : Nat) (full : List Value) (news : List Value) (hs : a.eval s = v) (hx : a.eval x = .slice (some ⟨W.heap.size, 0, none⟩) 1 1) (h : RowF W e size v n full) (hl : news.length = size) (h1 : ∀ u ∈ news, u.oneCell' = true)
  (hbytes : (n + 1) * bytes ≤ 140737488355328) (hb0 : 0 < bytes)
  (hk : ∀ v' w' full', RowF w' e size v' (n + 1) full' → Fr (fun k => v.ownBlock = some k) W w' →
   ((v'.ownBlock = v.ownBlock ∧ full' = full.take (n * size) ++ news ++ full.drop ((n + 1) * size)) ∨ ((∃ b', v'.ownBlock = some b' ∧ W.heap.size ≤ b') ∧ ∃ k, full' = full.take (n * size) ++ news ++ zeros z.cells k)) → K (a.put o.dst v') w') :
  o.wp P a (W.alloc (.cells news.toArray e)) K Q := by
 obtain ⟨i0, hi, hzz⟩ := Option.map_eq_some_iff.1 hinfo
 simp only [Prod.mk.injEq] at hzz
 obtain ⟨hz0, hz1, hz2⟩ := hzz
 have hlen : n + 1 ≤ 140737488355328 := Nat.le_trans (Nat.le_mul_of_pos_right _ hb0) hbytes
 obtain ⟨v', w', full', hr, h2, h3, h4⟩ := run_append_full (P := P) (W.alloc (.cells news.toArray e)) t o.type e i0 z size bytes ht hi hz0 hz1 hz2 hzs v n full (h.fr ((Fr.refl (fun _ => False) W).alloc _) (fun _ _ h => h)) ⟨W.heap.size, 0, none⟩ 1 1 news (by omega)
  (World.news_of_block (cs := news.toArray) (t := e) (fr := (0, 0)) (heap_alloc_new W _)) h1 (by decide) (by simp only [maxLen]; omega) hbytes
 unfold Oper.wp execOp
 simp only [ho, resolve, invoke, builtin, Sem.run_bind, Sem.run_pure, Result.andThen_ok, List.map_toArray, List.map_cons, List.map_nil, hs, hx, hr]
 refine hk v' w' full' h2 ((((Fr.refl (fun _ => False) W).alloc _).mono (fun _ _ h => h.elim)).trans h3 (fun _ _ h => h)) ?_
 rcases h4 with h4 | ⟨h4, h5⟩
 ·exact .inl h4
 ·exact .inr ⟨⟨_, h4, by simp⟩, h5⟩
end
end
section
open Go.RowKit Fmt
theorem nil_eq1 (w : World) (c : Nat) : (binOp .eql 29 (.slice none 0 c) (.slice none 0 0)).run Tryz.prog w = .ok (.bool true) w := by kernel_rfl
theorem nil_eq0 (w : World) (a : Addr) (n c : Nat) : (binOp .eql 29 (.slice (some a) n c) (.slice none 0 0)).run Tryz.prog w = .ok (.bool false) w := by kernel_rfl
/-- An array of known size is one that is written out. -/
theorem litM (t : Array Value) {n : Nat} (h : t.size = n) : ∃ f : Nat → Value, t = ((List.range n).map f).toArray := by
 refine ⟨fun i : Nat => (t[i]! : Value), ?_⟩
 have h1 : t.toList = (List.range n).map (fun i : Nat => (t[i]! : Value)) := by
  apply List.ext_getElem
  ·simp [h]
  ·intro i h1 h2
   have hi : i < t.size := by simpa using h1
   simp [hi]
 rw [← h1]
/-- The lowest key so far, by the value that holds it. -/
def LowV (ps : List (Prs × Prs)) (i : Nat) (Ks : List Value) (lk : Value) (ix : List Nat) : Prop :=
 (LowP ps i none ix ∧ lk = .slice none 0 0) ∨ ∃ (k : List Nat) (x : Nat) (p : Prs × Prs) (q : List Nat × Nat) (r : Prs), LowP ps i (some k) ix ∧ Ks[x]? = some lk ∧ ps[x]? = some p ∧ p.2 = q :: r ∧ q.1 = k
def UmI (w0 : World) (col0 : Col) (mb how : Nat) (ms : List Mi) (ps : List (Prs × Prs)) (g : Nat) (t2 : Value) (w : World) : Prop :=
 ∃ (i : Nat) (col : Col) (d : MD), 1 ≤ i ∧ i ≤ ms.length ∧ g = ms.length - i ∧ t2 = .int .i64 (i : Int) ∧ Mg w col mb how ms ps (fun _ => True) d ∧ Kp cmi col0 w0 col w ∧ LowV ps i d.Ks d.lk d.ix
def UmPost (w0 : World) (col0 : Col) (mb how : Nat) (ms : List Mi) (ps : List (Prs × Prs)) (w : World) : Prop :=
 ∃ (col : Col) (d : MD), Mg w col mb how ms ps (fun _ => True) d ∧ Kp cmi col0 w0 col w ∧ ((LowP ps ms.length none d.ix ∧ d.lk = .slice none 0 0) ∨ ∃ k, LowP ps ms.length (some k) d.ix ∧ (∃ i, KeyVal w col i d.lk k) ∧ d.lv = jn how (heads k ps))
section
variable {w : World} {col : Col} {mb how : Nat} {ms : List Mi} {ps : List (Prs × Prs)} {fr : Nat → Prop} {d : MD}
/-- The lowest key lies in memory. -/
theorem LowV.key {i : Nat} (h : LowV ps i d.Ks d.lk d.ix) (hM : Mg w col mb how ms ps (fun _ => True) d) : (LowP ps i none d.ix ∧ d.lk = .slice none 0 0) ∨ ∃ (k : List Nat) (x : Nat) (p : Prs × Prs) (q : List Nat × Nat) (r : Prs), LowP ps i (some k) d.ix ∧ KeyVal w col x d.lk k ∧ d.Ks[x]? = some d.lk ∧ ps[x]? = some p ∧ p.2 = q :: r ∧ q.1 = k := by
 rcases h with h | ⟨k, x, p, q, r, h1, h2, h3, h4, h5⟩
 ·exact .inl h
 ·obtain ⟨v, u, e1, e2, e3⟩ := hM.fre x p trivial h3
  rw [h2] at e1
  injection e1 with e1
  subst e1
  rw [h4] at e3
  refine .inr ⟨k, x, p, q, r, h1, ?_, h2, h3, h4, h5⟩
  rw [← h5]; exact e3.1
theorem KeyAt.slc {i : Nat} {v u : Value} {rest : Prs} (h : KeyAt w col i v u rest) : ∃ (A : Option Addr) (n c : Nat), v = .slice A n c := by
 cases rest with
 | nil => exact ⟨_, _, _, h.1⟩
 | cons p r => obtain ⟨⟨g, c1, e, _⟩, _⟩ := h; exact ⟨_, _, _, e⟩
theorem Mg.drewN (h : Mg w col mb how ms ps fr d) (n : Nat) : Mg (w.drewN n) col mb how ms ps fr d :=
 h.kp ((Kp.refl (fun _ => False) col w).drewN n) (fun _ _ e => e) (fun e => e)
/-- The bytes of a head's key. -/
theorem Mg.byt (h : Mg w col mb how ms ps fr d) {x : Nat} {p : Prs × Prs} (hp : ps[x]? = some p) {q : List Nat × Nat} (hq : q ∈ p.2) : (∀ a, a ∈ q.1 → a < 256) ∧ q.2 < 18446744073709551616 ∧ q.1 ≠ [] := by
 obtain ⟨m, hm⟩ : ∃ m, ms[x]? = some m := by
  have := (List.getElem?_eq_some_iff.1 hp).1
  rw [h.len] at this
  exact ⟨_, List.getElem?_eq_getElem this⟩
 have hi := h.its x m p hm hp
 have hmem : q ∈ m.L := by rw [hi.all]; simp [hq]
 exact ⟨hi.byt q hmem, hi.val q hmem, hi.ne q hmem⟩
end
theorem hix_len (k : List Nat) : ∀ (ps : List (Prs × Prs)) (i : Nat), (hix k i ps).length ≤ ps.length
 | [], i => by simp [hix]
 | p :: ps, i => by
  have := hix_len k ps (i + 1)
  simp only [hix, List.length_append, List.length_cons]
  split
  ·split <;> simp <;> omega
  ·simp; omega
theorem LowP.len {ps : List (Prs × Prs)} {i : Nat} {lk : Option (List Nat)} {ix : List Nat} (h : LowP ps i lk ix) (h1 : 1 ≤ i) : 1 ≤ ix.length ∧ ix.length ≤ i := by
 cases lk with
 | none => obtain ⟨e, _⟩ := h; subst e; simpa using h1
 | some k =>
  obtain ⟨e, hne, _⟩ := h
  have := hix_len k (ps.take i) 0
  rw [← e, List.length_take] at this
  exact ⟨List.length_pos_iff.2 hne, by omega⟩
end
section
open Go.RowKit Fmt
/-- A slice of pairs in a block of pairs. -/
def MapV (w : World) (v : Value) (L : Prs) : Prop := ∃ g o c full, v = .slice (some ⟨g, o, none⟩) L.length c ∧ Blk w g full 42 ∧ PrsAt w g o L ∧ L.length ≤ c ∧ c ≤ maxLen
/-- A slice of pairs that is not nil; slices of such. -/
def PrN (w : World) (v : Value) (L : Prs) : Prop := ∃ b o c, v = .slice (some ⟨b, o, none⟩) L.length c ∧ PrsAt w b o L ∧ b < w.heap.size ∧ L.length ≤ c ∧ c ≤ maxLen
def SetsN (w : World) (v : Value) (S : List Prs) : Prop := (∃ b o c, v = .slice (some ⟨b, o, none⟩) S.length c ∧ (∀ i L, S[i]? = some L → ∃ u, w.cell? ⟨b, o + i, none⟩ = some u ∧ PrN w u L) ∧ b < w.heap.size ∧ S.length ≤ c ∧ c ≤ maxLen) ∨ (S = [] ∧ v = .slice none 0 0)
theorem SetsN.setv {w : World} {v : Value} {S : List Prs} (h : SetsN w v S) : SetsV w v S := by
 rcases h with ⟨b, o, c, h1, h2, h3⟩ | ⟨h1, h2⟩
 ·exact .inl ⟨b, o, c, h1, fun i L hL => by obtain ⟨u, k1, k2⟩ := h2 i L hL; exact ⟨u, k1, .inl k2⟩, h3⟩
 ·exact .inr ⟨h1, none, 0, h2, by decide⟩
theorem PrN.fr {w w' : World} {v : Value} {L : Prs} (h : PrN w v L) (k : Fr (fun _ => False) w w') : PrN w' v L := by
 obtain ⟨b, o, c, h1, h2, h3, h4⟩ := h
 exact ⟨b, o, c, h1, h2.fr k (fun h => h), Nat.lt_of_lt_of_le h3 k.size, h4⟩
theorem SetsN.fr {w w' : World} {v : Value} {S : List Prs} (h : SetsN w v S) (k : Fr (fun _ => False) w w') : SetsN w' v S := by
 rcases h with ⟨b, o, c, h1, h2, h3, h4⟩ | h
 ·exact .inl ⟨b, o, c, h1, fun i L hL => by
   obtain ⟨u, k1, k2⟩ := h2 i L hL
   exact ⟨u, k.cell k1 (fun h => h), k2.fr k⟩, Nat.lt_of_lt_of_le h3 k.size, h4⟩
 ·exact .inr h
theorem SetsN.at_ {w : World} {v : Value} {S : List Prs} (h : SetsN w v S) {i : Nat} {L : Prs} (hp : S[i]? = some L) : ∃ b o c u, v = .slice (some ⟨b, o, none⟩) S.length c ∧ w.cell? ⟨b, o + i, none⟩ = some u ∧ PrN w u L := by
 rcases h with ⟨b, o, c, h1, h2, h3, h4⟩ | ⟨h1, h2⟩
 ·obtain ⟨u, k1, k2⟩ := h2 i L hp
  exact ⟨b, o, c, u, h1, k1, k2⟩
 ·subst h1; simp at hp
section
variable {w w' : World} {v : Value} {L : Prs}
theorem MapV.prn (h : MapV w v L) : PrN w v L := by
 obtain ⟨g, o, c, full, h1, h2, h3, h4, h5⟩ := h
 exact ⟨g, o, c, h1, h3, h2.lt, h4, h5⟩
theorem MapV.fr {F : Nat → Prop} (h : MapV w v L) (k : Fr F w w') (hn : ∀ g full, Blk w g full 42 → ¬ F g) : MapV w' v L := by
 obtain ⟨g, o, c, full, h1, h2, h3, h4⟩ := h
 exact ⟨g, o, c, full, h1, h2.fr k (hn g full h2), h3.fr k (hn g full h2), h4⟩
/-- A slice that is not nil. -/
def NN (v : Value) : Prop := ∃ a n c, v = .slice (some a) n c
theorem PrO.map {base : Nat} {SS : List (ByteArray × Nat)} (h : PrO w base v SS) (hn : NN v) : MapV w v (prsOf SS) := by
 have hv := PrO.v h
 obtain ⟨full, h1, h2, h3⟩ := h.ex
 rcases h1 with ⟨rfl, h0, _⟩ | ⟨g, cap, rfl, hb, hc, hm, _⟩
 ·obtain ⟨_, _, _, e⟩ := hn; cases e
 ·rcases hv with ⟨b, o, c, e, k2, k3, k4, k5⟩ | ⟨hnil, A, c, e, hm'⟩
  ·injection e with e1 e2 e3
   injection e1 with e1
   injection e1 with e1 e4
   subst e1 e4 e3
   exact ⟨g, 0, cap, full, by rw [e2], hb, k2, k4, k5⟩
  ·injection e with e1 e2 e3
   rw [hnil]
   exact ⟨g, 0, cap, full, by rw [e2]; rfl, hb, (fun i p h => by simp at h), Nat.zero_le _, hm⟩
theorem PrO.nn {base : Nat} {SS : List (ByteArray × Nat)} (h : PrO w base v SS) (hs : SS ≠ []) : NN v := by
 obtain ⟨full, h1, h2, h3⟩ := h.ex
 rcases h1 with ⟨rfl, h0, _⟩ | ⟨g, cap, rfl, hb, hc, hm, _⟩
 ·exact absurd (List.length_eq_zero_iff.1 h0) hs
 ·exact ⟨_, _, _, rfl⟩
/-- A map without the empty key. -/
def strip : Prs → Prs
 | [] => []
 | p :: r => if p.1 = [] then r else p :: r
def sm (L : Prs) : Prs := strip (mapP L)
theorem row_ne {e : TypeId} {size n : Nat} {full : List Value} (hr : RowF w e size v n full) (he : e ≠ 42) (g : Nat) (fl : List Value) (hb : Blk w g fl 42) : ¬ v.ownBlock = some g := fun h => by
 rcases hr with ⟨rfl, _, _⟩ | ⟨g', cap, rfl, hb', _⟩
 ·simp [Value.ownBlock] at h
 ·simp [Value.ownBlock] at h
  subst h
  exact he (hb'.inj hb).2
/-- A row of maps, its own. -/
structure MapsO (w : World) (base : Nat) (v : Value) (R : List Prs) : Prop where
 ex : ∃ full, RowF w 26 1 v R.length full ∧ (∀ (j : Nat) (L : Prs), R[j]? = some L → ∃ u, full[j]? = some u ∧ MapV w u L) ∧ ∀ b, v.ownBlock = some b → base ≤ b
theorem MapsO.fr {base : Nat} {R : List Prs} (h : MapsO w base v R) (k : Fr (fun _ => False) w w') : MapsO w' base v R := by
 obtain ⟨full, h1, h2, h3⟩ := h.ex
 exact ⟨full, h1.fr k (fun _ _ h => h), fun j L hj => by
  obtain ⟨u, k1, k2⟩ := h2 j L hj
  exact ⟨u, k1, k2.fr k (fun _ _ _ h => h)⟩, h3⟩
theorem MapsO.setv {base : Nat} {R : List Prs} (h : MapsO w base v R) : SetsN w v R := by
 obtain ⟨full, h1, h2, h3⟩ := h.ex
 rcases h1 with ⟨rfl, h0, _⟩ | ⟨g, cap, rfl, hb, hc, hm, _⟩
 ·exact .inr ⟨List.length_eq_zero_iff.1 h0, rfl⟩
 ·refine .inl ⟨g, 0, cap, rfl, fun i L hi => ?_, hb.lt, hc, hm⟩
  obtain ⟨u, k1, k2⟩ := h2 i L hi
  exact ⟨u, by rw [Nat.zero_add]; exact hb.cell i k1, k2.prn⟩
theorem MapsO.app {w5 : World} {base : Nat} {R : List Prs} {full full' : List Value} {u v' : Value} (h1 : RowF w 26 1 v R.length full) (h2 : ∀ (j : Nat) (L : Prs), R[j]? = some L → ∃ u, full[j]? = some u ∧ MapV w u L) (h3 : ∀ b, v.ownBlock = some b → base ≤ b) (hbs : base ≤ w.heap.size) (hu : MapV w u L) (hF : Fr (fun k => v.ownBlock = some k) w w5) (hr : RowF w5 26 1 v' (R.length + 1) full')
  (hc : (v'.ownBlock = v.ownBlock ∧ full' = full.take (R.length * 1) ++ [u] ++ full.drop ((R.length + 1) * 1)) ∨ ((∃ b', v'.ownBlock = some b' ∧ w.heap.size ≤ b') ∧ ∃ k, full' = full.take (R.length * 1) ++ [u] ++ zeros #[Value.slice none 0 0] k)) : MapsO w5 base v' (R ++ [L]) := by
 obtain ⟨A, cp, e1, e2, e3, e4⟩ := h1.slc
 have hl : R.length ≤ full.length := by rw [e4]; omega
 have ha : AppF full R.length u full' (.slice none 0 0) := AppF.of hc
 have hne : ∀ g fl, Blk w g fl 42 → ¬ v.ownBlock = some g := row_ne h1 (by decide)
 refine ⟨full', by rw [List.length_append]; exact hr, fun j M hj => ?_, fun b hb => ?_⟩
 ·rcases Nat.lt_or_ge j R.length with hlt | hge
  ·rw [List.getElem?_append_left hlt] at hj
   obtain ⟨x, k1, k2⟩ := h2 j M hj
   exact ⟨x, by rw [ha.lt hl hlt]; exact k1, k2.fr hF hne⟩
  ·rw [List.getElem?_append_right hge] at hj
   have hj0 : j = R.length := by
    have := (List.getElem?_eq_some_iff.1 hj).1; simp at this; omega
   subst hj0
   simp at hj
   subst hj
   exact ⟨u, ha.at_ hl, hu.fr hF hne⟩
 ·rcases hc with ⟨e, _⟩ | ⟨⟨b', e, hb'⟩, _⟩
  ·rw [e] at hb; exact h3 b hb
  ·rw [e] at hb; cases hb; omega
end
set_option maxHeartbeats 1000000 in
set_option maxRecDepth 100000 in
theorem map_none' {w : World} {v : Value} (h : PrV w v []) : Calls Tryz.prog 14 #[v] w fun e w' => ∃ v SS, e = .returned v ∧ prsOf SS = mapP [] ∧ PrO w' w.heap.size v SS ∧ Fr (fun _ => False) w w' ∧ NN v := by
 obtain ⟨A, c, rfl, hc, hm⟩ := h.len
 simp only [List.length_nil] at *
 clear h hc hm
 go_enter Tryz.func14, Tryz.ntmps14
 go_wp2_with (at_builtin; refine wpList_app_zero rfl _ _ rfl rfl ⟨w.heap.size, 0, none⟩ A c rfl rfl ?_)
 go_ret
 refine ⟨_, [], rfl, ?_, ⟨[], .inr ⟨w.heap.size, 0, rfl, Blk.newAt w [] 42 _ rfl, Nat.le_refl _, by decide, rfl⟩, rfl, fun b hb => by simp [Value.ownBlock] at hb; omega⟩, (Fr.refl _ w).alloc _, _, _, _, rfl⟩
 rw [mapP_small (by decide)]; rfl
theorem map_nn {w : World} {v : Value} {L : Prs} (h : PrV w v L) (hl : L.length ≤ 1099511627776) (hk : ∀ p, p ∈ L → p.1.length ≤ 2147483647) : Calls Tryz.prog 14 #[v] w fun e w' => ∃ v SS, e = .returned v ∧ prsOf SS = mapP L ∧ PrO w' w.heap.size v SS ∧ Fr (fun _ => False) w w' ∧ NN v := by
 cases L with
 | nil => exact map_none' h
 | cons p L =>
  refine (map_calls _ (Nat.le_refl _) h hl hk).mono ?_
  rintro e w' ⟨v, SS, h1, h2, h3, h4⟩
  refine ⟨v, SS, h1, h2, h3, h4, h3.nn fun e => ?_⟩
  obtain ⟨z, hz⟩ := (mapP_ok _ (p :: L) (Nat.le_refl _)).2.2.1 p (by simp)
  rw [← h2, e] at hz
  cases hz
end
section
open Go.RowKit Fmt
def MapsPost (w : World) (S : List Prs) (e : Ending) (w' : World) : Prop := ((∃ z, e = .returned (.tuple #[z, .bool false])) ∧ Fr (fun _ => False) w w') ∨ (S.length ≤ 200 ∧ Fit1 S ∧ ∃ u, e = .returned (.tuple #[u, .bool true]) ∧ SetsN w' u (S.map sm) ∧ Fr (fun _ => False) w w')
/-- The rest of a slice of pairs behind its first one. -/
theorem MapV.tail {w : World} {g c : Nat} {full : List Value} {p : List Nat × Nat} {r : Prs} (hb : Blk w g full 42) (hp : PrsAt w g 0 (p :: r)) (hc : r.length + 1 ≤ c) (hm : c ≤ maxLen) : MapV w (.slice (if c = 1 then some ⟨g, 0, none⟩ else some ⟨g, 2, none⟩) r.length (c - 1)) r := by
 by_cases h1 : c = 1
 ·have : r = [] := List.length_eq_zero_iff.1 (by omega)
  subst this
  exact ⟨g, 0, c - 1, full, by rw [if_pos h1], hb, (fun i p h => by simp at h), by omega, by omega⟩
 ·rw [if_neg h1]
  refine ⟨g, 2, c - 1, full, rfl, hb, fun i q hq => ?_, by omega, by omega⟩
  have := hp (i + 1) q (by simpa using hq)
  simp only [Nat.zero_add] at this
  rw [show 2 + i * 2 = (i + 1) * 2 by omega]
  exact this
set_option maxHeartbeats 2000000 in
set_option maxRecDepth 100000 in
theorem maps_calls {w : World} {v : Value} {S : List Prs} (h : SetsV w v S) (hf : Fits4 S) : Calls Tryz.prog 5 #[v] w fun e w' => MapsPost w S e w' := by
 obtain ⟨A, c, rfl, hc, hm⟩ := h.len
 obtain ⟨N, hN⟩ : ∃ N, Hid (S.length = N) := ⟨_, Lib.hid rfl⟩
 by_cases h200 : S.length ≤ 200
 case neg =>
  have e1 : (200 : Int) < (N : Int) := by have := hN.out; omega
  rw [hN.out]
  clear h hf hc hm h200
  go_enter Tryz.func5, Tryz.ntmps5
  go_wp2_with fail
  go_ret2
  exact .inl ⟨⟨_, rfl⟩, Fr.refl _ _⟩
 have hfit := fit_calls h hf h200
 have HS := Lib.hid (And.intro h (And.intro hf h200))
 have e1 : ¬ (200 : Int) < (N : Int) := by have := hN.out; omega
 have hN' := hN.out
 rw [hN.out] at hfit hc h200 ⊢
 clear h hf hN'
 go_enter Tryz.func5, Tryz.ntmps5
 go_wp2_with fail
 refine hfit.mono ?_
 rintro e w' ⟨⟨r, rfl, hr⟩, rfl⟩
 clear hfit
 cases r with
 | false =>
  clear hr
  go_wp2_with fail
  go_ret2
  exact .inl ⟨⟨_, rfl⟩, Fr.refl _ _⟩
 | true =>
 have HR := Lib.hid (hr rfl)
 clear hr
 go_wp2_with fail
 have H0 : Hid (MapsO w' w'.heap.size (.slice none 0 0) []) := Lib.hid ⟨[], .inl ⟨rfl, rfl, rfl⟩, by simp, fun b hb => by simp [Value.ownBlock] at hb⟩
 go_loopg [4, 5] (N + 1) (fun g tv ti wx => ∃ (i : Nat), i ≤ N ∧ g = N - i + 1 ∧ ti = .int .i64 (i : Int) ∧ MapsO wx w'.heap.size tv ((S.take i).map sm) ∧ Fr (fun _ => False) w' wx)
 case atStart => exact ⟨0, by omega, by omega, rfl, H0.out, Fr.refl _ _⟩
 case round =>
  clear H0
  obtain ⟨i, hi, hg, rfl, hO, hFx⟩ := hrel
  obtain ⟨full, hRow, hat, hbs⟩ := hO.ex
  obtain ⟨AO, cO, rfl⟩ := rowv hRow
  have eL : ((S.take i).map sm).length = i := by have := hN.out; simp; omega
  rw [eL] at hRow ⊢
  have HX := Lib.hid (And.intro hO (And.intro hFx (And.intro hat (And.intro hbs (And.intro hg eL)))))
  by_cases hend : i = N
  ·subst hend
   have d1 : ¬ (i : Int) < (i : Int) := by omega
   clear hO hFx hat hbs hg eL hRow
   go_wp2_with fail
   go_ret2
   obtain ⟨hO, hFx, hat, hbs, hg, eL⟩ := HX.out
   refine .inr ⟨HS.out.2.2, HR.out, _, rfl, ?_, hFx⟩
   have e9 : S.take i = S := List.take_of_length_le (by have := hN.out; omega)
   have hv := hO.setv
   rw [e9] at hv
   have eS : (S.map sm).length = i := by rw [List.length_map]; exact hN.out
   rw [List.length_map, hN.out] at hv
   exact hv
  ·have hiN : i < N := by omega
   have d1 : (i : Int) < (N : Int) := by omega
   have d2 : IntKind.i64.wrap ((i : Int) + 1) = ((i + 1 : Nat) : Int) := by rw [IntWalk.i64_in _ (by omega)]; omega
   obtain ⟨L, hL⟩ : ∃ L, S[i]? = some L := ⟨_, List.getElem?_eq_getElem (by rw [hN.out]; exact hiN)⟩
   obtain ⟨b, o, c', u, k1, k2, k3⟩ := (HS.out.1.fr hFx).at_ hL
   rw [hN.out] at k1
   injection k1 with k1 k1b k1c
   subst k1 k1c
   clear k1b
   have hcall := map_nn k3 (by have := (HS.out.2.1.2 i L hL).1; omega) (fun p hp => by
    obtain ⟨j, hj⟩ := List.getElem?_of_mem hp
    exact (HS.out.2.1.2 i L hL).2 j p hj)
   have HI := Lib.hid (And.intro hL (And.intro hiN hi))
   clear hO hFx hat hbs hg eL k3 hi hend hL
   go_wp2_with fail
   refine hcall.mono ?_
   rintro e w2 ⟨vm, SS, rfl, eS, hP, hFm, hnn⟩
   clear hcall
   have hmv := hP.map hnn
   rw [eS] at hmv
   have HF2 := Lib.hid hFm
   obtain ⟨fl, hrow2, _, _⟩ := hP.ex
   obtain ⟨AA, cA, rfl⟩ := rowv hrow2
   obtain ⟨A', c'', e', hcA, -⟩ := hrow2.slc
   injection e' with e1 e2 e3
   subst e3
   clear hrow2 hFm e1 e2
   rcases SS with _ | ⟨s, T⟩
   case' nil =>
    have HM : Hid (MapV w2 (.slice AA 0 cA) (sm L)) := Lib.hid (by unfold sm; rw [← eS] at hmv ⊢; exact hmv)
    clear hP hmv eS hnn
    go_upto_region 10 with fail
   case' cons =>
    obtain ⟨g, cap, e, r0, -⟩ := hP.at_ (i := 0) (s := s) rfl
    injection e with e1 e2 e3
    subst e1 e3
    clear e2
    simp only [Nat.zero_mul, List.length_cons] at r0 hmv ⊢
    obtain ⟨s1, z1⟩ := s
    simp only at r0
    have f1 : (0 : Int) < ((T.length + 1 : Nat) : Int) := by omega
    by_cases hs : s1 = ⟨#[]⟩
    case' pos =>
     subst hs
     have HM : Hid (MapV w2 (.slice (if cA = 1 then some ⟨g, 0, none⟩ else some ⟨g, 2, none⟩) T.length (cA - 1)) (sm L)) := Lib.hid (by
      obtain ⟨g', o', c', full', e, hb, hpa, hc1, hm1⟩ := hmv
      injection e with e1 e2 e3
      injection e1 with e1
      injection e1 with e1 e4
      subst e1 e4 e3
      rw [← eS] at hpa hc1
      have h := MapV.tail (p := (bytesOf ⟨#[]⟩, z1)) (r := prsOf T) hb hpa (by simpa [prsOf] using hc1) hm1
      have e5 : sm L = prsOf T := by unfold sm; rw [← eS]; rfl
      rw [e5]
      simpa [prsOf] using h)
     clear hP hmv eS hnn
     have f2 : (1 : Int) ≤ (cA : Int) := by simp only [List.length_cons] at hcA; omega
     clear hcA
     rcases Nat.decEq cA 1 with hc1 | hc1
     case' isTrue =>
      subst hc1
      rw [if_pos rfl] at HM
      replace HM : Hid (MapV w2 (.slice (some ⟨g, 0, none⟩) T.length 0) (sm L)) := HM
      go_upto_region 10 with fail
     case' isFalse =>
      rw [if_neg hc1] at HM
      go_upto_region 10 with fail
    case' neg =>
     have f2 : s1.toList.isEmpty = false := by have := str_ne hs; rwa [show (⟨#[]⟩ : ByteArray).toList = [] by rw [Lib.toList_data], List.beq_nil_eq] at this
     have HM : Hid (MapV w2 (.slice (some ⟨g, 0, none⟩) (T.length + 1) cA) (sm L)) := Lib.hid (by
      have e5 : sm L = mapP L := by
       unfold sm; rw [← eS]
       have : ¬ bytesOf s1 = [] := fun e => hs (bytesOf_inj (e.trans rfl))
       simp [prsOf, strip, this]
      rw [e5]; exact hmv)
     clear hP hmv eS hnn
     go_upto_region 10 with fail
   all_goals (
    obtain ⟨hO, hFx, hat, hbs, hg, eL⟩ := HX.out
    have hrow2 : RowF w2 26 1 (.slice AO i cO) i full := hRow.fr HF2.out (fun _ _ h => h)
    clear hO hFx hat hbs hg eL hRow
    go_wp2_with (at_builtin; (refine app1f w2 w2.heap.size rfl rfl _ _ 22 rfl 26 (.slice none 0 0) 1 24 (by kernel_rfl) (by kernel_rfl) rfl (.slice AO i cO) i full [_] rfl rfl hrow2 rfl (by simp [Value.oneCell']) (by omega) (by decide) ?_); intro v5 w5 full5 hr5 hF5 hc5)
    go_roundg (N - (i + 1) + 1)
    case measure => have := HX.out.2.2.2.2.1; have := HI.out.2.1; omega
    case rel =>
     obtain ⟨hO, hFx, hat, hbs, hg, eL⟩ := HX.out
     have hFb : Fr (fun _ => False) w' w2 := hFx.trans HF2.out (fun _ _ h => h)
     refine ⟨i + 1, by have := HI.out.2.1; omega, rfl, by simp, ?_, hFb.trans hF5 (fun x hx h => by have := hbs x (by rw [eL]; exact h); omega)⟩
     rw [take_snoc HI.out.1, List.map_append]
     have hat2 : ∀ (j : Nat) (M : Prs), ((S.take i).map sm)[j]? = some M → ∃ u, full[j]? = some u ∧ MapV w2 u M := fun j M hj => by
      obtain ⟨x, k1, k2⟩ := hat j M hj
      exact ⟨x, k1, k2.fr HF2.out (fun _ _ _ h => h)⟩
     exact MapsO.app (v := .slice AO i cO) (by rw [eL]; exact hrow2) hat2 (fun b hb => hbs b (by rw [eL]; exact hb)) hFb.size HM.out hF5 (by rw [eL]; exact hr5) (by rw [eL]; exact hc5))
end
end Go.Proofs.YtmhlnijpimjjaaaGreatDoor
