/- Alternatives as instructions, in plain lists. No condition. The compiler with its buffers for package utf8. No condition. The walk of '(*compiler).compileClassRange' of package regexp: a range of runes becomes the alternatives of its parts. Condition: fewer than 500000 instructions. The small methods of the compiler, its buffers beside. Condition: fewer than 10^6 instructions. The walk of '(*compiler).compileClass' of package regexp: pairs of runes become alternatives. Condition: at most 1000 pairs, and fewer than 300000 instructions. Expressions as a plain tree, and the instructions they become. No condition. Expressions in memory, as Go's package has them. No condition. -/
import Derived.Test.YtjeklnbfpehbeaaDoorM03
import Derived.Test.YtjeklnbfpehbeaaDoorM07
import Derived.Test.YtjeklnbfpehbeaaDoorM08
set_option linter.unusedVariables false
/- Alternatives as instructions, in plain lists. No condition. -/
namespace Go.Proofs.YtjeklnbfpehbeaaDoor

/-- All alternatives but the last: each behind a split, and behind it a jump to e. -/
def pre (o : Nat) : List (Nat → List Ins) → Nat → List Ins
  | [], _ => []
  | c :: cs, e => .split (o + 1) (o + 1 + (c (o + 1)).length + 1) :: c (o + 1) ++ .jmp e :: pre (o + (c (o + 1)).length + 2) cs e
/-- Where the jumps stand. -/
def jps (o : Nat) : List (Nat → List Ins) → List Nat
  | [] => []
  | c :: cs => (o + 1 + (c (o + 1)).length) :: jps (o + (c (o + 1)).length + 2) cs
/-- Alternatives that end at e. -/
def altE (o : Nat) : List (Nat → List Ins) → Nat → List Ins
  | [], _ => []
  | [c], _ => c o
  | c :: d :: cs, e => .split (o + 1) (o + 1 + (c (o + 1)).length + 1) :: c (o + 1) ++ .jmp e :: altE (o + (c (o + 1)).length + 2) (d :: cs) e
def altc (cs : List (Nat → List Ins)) (o : Nat) : List Ins := altE o cs (o + (altE o cs 0).length)

theorem pre_len (o : Nat) (cs : List (Nat → List Ins)) (e f : Nat) : (pre o cs e).length = (pre o cs f).length := by
  induction cs generalizing o with
  | nil => rfl
  | cons c cs ih => simp only [pre, List.length_append, List.length_cons]; rw [ih]
theorem altE_len (o : Nat) (cs : List (Nat → List Ins)) (e f : Nat) : (altE o cs e).length = (altE o cs f).length := by
  induction cs generalizing o with
  | nil => rfl
  | cons c cs ih =>
    cases cs with
    | nil => rfl
    | cons d cs => simp only [altE, List.length_append, List.length_cons]; rw [ih]
theorem pre_snoc (o : Nat) (cs : List (Nat → List Ins)) (c : Nat → List Ins) (e : Nat) : pre o (cs ++ [c]) e = pre o cs e ++ (.split (o + (pre o cs e).length + 1) (o + (pre o cs e).length + 1 + (c (o + (pre o cs e).length + 1)).length + 1) :: c (o + (pre o cs e).length + 1) ++ [.jmp e]) := by
  induction cs generalizing o with
  | nil => simp [pre]
  | cons d cs ih =>
    have hn : o + (pre o (d :: cs) e).length = o + (d (o + 1)).length + 2 + (pre (o + (d (o + 1)).length + 2) cs e).length := by
      simp only [pre, List.length_append, List.length_cons]; omega
    rw [hn]
    simp only [List.cons_append, pre, List.append_assoc]
    rw [ih]
    simp
theorem jps_snoc (o : Nat) (cs : List (Nat → List Ins)) (c : Nat → List Ins) (e : Nat) : jps o (cs ++ [c]) = jps o cs ++ [o + (pre o cs e).length + 1 + (c (o + (pre o cs e).length + 1)).length] := by
  induction cs generalizing o with
  | nil => simp [pre, jps]
  | cons d cs ih =>
    have hn : o + (pre o (d :: cs) e).length = o + (d (o + 1)).length + 2 + (pre (o + (d (o + 1)).length + 2) cs e).length := by
      simp only [pre, List.length_append, List.length_cons]; omega
    rw [hn]
    simp only [List.cons_append, jps]
    rw [ih]
theorem jps_len (o : Nat) (cs : List (Nat → List Ins)) : (jps o cs).length = cs.length := by
  induction cs generalizing o with
  | nil => rfl
  | cons c cs ih => simp only [jps, List.length_cons]; rw [ih]
theorem altE_snoc (o : Nat) (cs : List (Nat → List Ins)) (l : Nat → List Ins) (e : Nat) : altE o (cs ++ [l]) e = pre o cs e ++ l (o + (pre o cs e).length) := by
  induction cs generalizing o with
  | nil => simp [pre, altE]
  | cons d cs ih =>
    have hn : o + (pre o (d :: cs) e).length = o + (d (o + 1)).length + 2 + (pre (o + (d (o + 1)).length + 2) cs e).length := by
      simp only [pre, List.length_append, List.length_cons]; omega
    rw [hn]
    obtain ⟨d2, cs2, h2⟩ : ∃ d2 cs2, cs ++ [l] = d2 :: cs2 := by
      cases cs with
      | nil => exact ⟨l, [], rfl⟩
      | cons d2 cs2 => exact ⟨d2, cs2 ++ [l], rfl⟩
    have hih := ih (o + (d (o + 1)).length + 2)
    simp only [List.cons_append, pre, List.append_assoc]
    rw [h2] at hih ⊢
    simp only [altE]
    rw [hih]
    simp
theorem altc_snoc (o : Nat) (cs : List (Nat → List Ins)) (l : Nat → List Ins) : altc (cs ++ [l]) o = pre o cs (o + (pre o cs 0).length + (l (o + (pre o cs 0).length)).length) ++ l (o + (pre o cs 0).length) := by
  unfold altc
  rw [altE_snoc, altE_snoc, List.length_append, ← Nat.add_assoc]
  rw [pre_len o cs (o + (pre o cs 0).length + (l (o + (pre o cs 0).length)).length) 0]

/-- The jumps are set. -/
def setJs (p : List Ins) (js : List Nat) (e : Nat) : List Ins := js.foldl (fun p j => p.set j (.jmp e)) p
theorem setJs_snoc (p : List Ins) (js : List Nat) (j e : Nat) : setJs p (js ++ [j]) e = (setJs p js e).set j (.jmp e) := by simp [setJs]
theorem setJs_len (p : List Ins) (js : List Nat) (e : Nat) : (setJs p js e).length = p.length := by
  induction js generalizing p with
  | nil => rfl
  | cons j js ih => simp only [setJs, List.foldl_cons] at *; rw [ih]; simp
theorem setJs_jmp {p : List Ins} {js : List Nat} {e j a : Nat} (h : p[j]? = some (.jmp a)) : ∃ b, (setJs p js e)[j]? = some (.jmp b) := by
  induction js generalizing p a with
  | nil => exact ⟨a, h⟩
  | cons i js ih =>
    simp only [setJs, List.foldl_cons] at *
    by_cases hij : i = j
    · subst hij
      exact ih (a := e) (List.getElem?_set_self (List.getElem?_eq_some_iff.1 h).1)
    · exact ih (a := a) ((List.getElem?_set_ne hij).trans h)
theorem pre_jmp (A : List Ins) (cs : List (Nat → List Ins)) (e : Nat) (D : List Ins) : ∀ j, j ∈ jps A.length cs → (A ++ pre A.length cs e ++ D)[j]? = some (.jmp e) := by
  induction cs generalizing A with
  | nil => intro j hj; simp [jps] at hj
  | cons c cs ih =>
    intro j hj
    simp only [jps, List.mem_cons] at hj
    have e1 : A ++ pre A.length (c :: cs) e ++ D = (A ++ (.split (A.length + 1) (A.length + 1 + (c (A.length + 1)).length + 1) :: c (A.length + 1) ++ [.jmp e])) ++ pre (A.length + (c (A.length + 1)).length + 2) cs e ++ D := by simp [pre]
    have e2 : (A ++ (Ins.split (A.length + 1) (A.length + 1 + (c (A.length + 1)).length + 1) :: c (A.length + 1) ++ [Ins.jmp e])).length = A.length + (c (A.length + 1)).length + 2 := by simp; omega
    rcases hj with rfl | hj
    · rw [e1, List.append_assoc, List.getElem?_append_left (by rw [e2]; omega), List.getElem?_append_right (by omega)]
      rw [show A.length + 1 + (c (A.length + 1)).length - A.length = (Ins.split (A.length + 1) (A.length + 1 + (c (A.length + 1)).length + 1) :: c (A.length + 1)).length by simp; omega]
      simp
    · rw [e1]
      rw [← e2] at hj ⊢
      exact ih _ j hj
theorem set_mid (X Y : List Ins) (a b : Ins) : (X ++ a :: Y).set X.length b = X ++ b :: Y := by simp
theorem setJs_pre (A : List Ins) (cs : List (Nat → List Ins)) (e : Nat) (D : List Ins) : setJs (A ++ pre A.length cs 0 ++ D) (jps A.length cs) e = A ++ pre A.length cs e ++ D := by
  induction cs generalizing A with
  | nil => simp [jps, setJs, pre]
  | cons c cs ih =>
    obtain ⟨S, hS⟩ : ∃ S, S = Ins.split (A.length + 1) (A.length + 1 + (c (A.length + 1)).length + 1) := ⟨_, rfl⟩
    have hX : ∀ f : Nat, A ++ pre A.length (c :: cs) f ++ D = (A ++ S :: c (A.length + 1)) ++ (.jmp f :: (pre (A.length + (c (A.length + 1)).length + 2) cs f ++ D)) := by intro f; rw [hS]; simp [pre]
    have hl : A.length + 1 + (c (A.length + 1)).length = (A ++ S :: c (A.length + 1)).length := by simp; omega
    show setJs ((A ++ pre A.length (c :: cs) 0 ++ D).set (A.length + 1 + (c (A.length + 1)).length) (.jmp e)) (jps (A.length + (c (A.length + 1)).length + 2) cs) e = _
    rw [hX 0, hl, set_mid, hX e]
    have := ih (A ++ S :: c (A.length + 1) ++ [.jmp e])
    have e2 : (A ++ S :: c (A.length + 1) ++ [Ins.jmp e]).length = A.length + (c (A.length + 1)).length + 2 := by simp; omega
    rw [e2] at this
    simpa using this
theorem pre_len_le (m : Nat) (o : Nat) (cs : List (Nat → List Ins)) (e : Nat) (h : ∀ c, c ∈ cs → ∀ o, (c o).length ≤ m) : (pre o cs e).length ≤ (m + 2) * cs.length := by
  induction cs generalizing o with
  | nil => simp [pre]
  | cons c cs ih =>
    have h1 := h c (by simp) (o + 1)
    have h2 := ih (o + (c (o + 1)).length + 2) (fun c hc => h c (by simp [hc]))
    simp only [pre, List.length_append, List.length_cons, Nat.mul_add, Nat.mul_one]
    omega
end Go.Proofs.YtjeklnbfpehbeaaDoor

/- The compiler with its buffers for package utf8. No condition. -/
namespace Go.Proofs.YtjeklnbfpehbeaaDoor
open Go.RowKit

/-- What the compiler's work may write. -/
def KT (w : World) (B k : Nat) : Prop := CT w B k ∨ UT w B k

theorem kt_back {w w' : World} {B : Nat} (h : Fr (KT w B) w w') : ∀ i, i < w.heap.size → KT w' B i → KT w B i := by
  intro i hi hc
  by_cases e : KT w B i
  · exact e
  · have hb := h.block i hi e
    rcases hc with ⟨h1, cs, t, h2, h3⟩ | ⟨h1, cs, t, h2, h3⟩
    · exact absurd (.inl ⟨h1, cs, t, hb.symm.trans h2, h3⟩) e
    · exact absurd (.inr ⟨h1, cs, t, hb.symm.trans h2, h3⟩) e
theorem kt_trans {w w1 w2 : World} {B : Nat} (h : Fr (KT w B) w w1) (k : Fr (KT w1 B) w1 w2) : Fr (KT w B) w w2 := h.trans k (kt_back h)
theorem ct_kt {w w1 : World} {B : Nat} (h : Fr (CT w B) w w1) : Fr (KT w B) w w1 := h.mono (fun _ _ h => .inl h)
theorem ut_kt {w w1 : World} {B : Nat} (h : Fr (UT w B) w w1) : Fr (KT w B) w w1 := h.mono (fun _ _ h => .inr h)
theorem blk_kt {w : World} {B k : Nat} {cs : List Value} {t : TypeId} (h : Blk w k cs t) (ht : t ≠ 99 ∧ t ≠ 101 ∧ t ≠ 105 ∧ t ≠ 135 ∧ t ≠ 160 ∧ t ≠ 5) : ¬ KT w B k := by
  rintro (h1 | h1)
  · exact blk_ct h ht.1 ht.2.1 ht.2.2.1 h1
  · exact blk_ut h ht.2.2.2.1 ht.2.2.2.2.1 ht.2.2.2.2.2 h1
theorem kt_ge {w : World} {B k : Nat} (h : KT w B k) : B ≤ k := by
  rcases h with h | h <;> exact h.1
theorem own_ut {w : World} {base n B : Nat} {e : TypeId} {size : Nat} {v : Value} {xs : List Value} (h : w.ownsRow base e size v n xs) (h1 : e ≠ 135) (h2 : e ≠ 160) (h3 : e ≠ 5) : ∀ k, v.ownBlock = some k → ¬ UT w B k := by
  intro k hk
  rcases h.2 with ⟨rfl, _⟩ | ⟨g, cap, cur, rfl, _, hg, _⟩
  · simp [Value.ownBlock] at hk
  · simp [Value.ownBlock] at hk
    subst hk
    exact blk_ut (cs := cur.toList) (by unfold Blk; simpa using hg) h1 h2 h3

def bufS (b : Nat) : Value := .slice (some ⟨b, 0, none⟩) 4 4

/-- The buffers. -/
structure Bufs (w : World) (B : Nat) (q3 q4 : Value) (sb eb : Nat) : Prop where
  r3 : ∃ n xs, w.ownsRow B 135 1 q3 n xs
  r4 : ∃ n xs, w.ownsRow B 160 2 q4 n xs
  bs : ∃ cs : List Nat, cs.length = 4 ∧ Blk w sb (u8s cs) 5
  be : ∃ cs : List Nat, cs.length = 4 ∧ Blk w eb (u8s cs) 5
  ne : sb ≠ eb
  gs : B ≤ sb
  ge : B ≤ eb
  nils : Nils w
  b9 : 9 < B

theorem Bufs.fr {w w' : World} {B : Nat} {q3 q4 : Value} {sb eb : Nat} {F : Nat → Prop} (h : Bufs w B q3 q4 sb eb) (hf : Fr F w w') (h3 : ∀ k, q3.ownBlock = some k → ¬ F k) (h4 : ∀ k, q4.ownBlock = some k → ¬ F k) (h5 : ∀ k cs, Blk w k cs 5 → ¬ F k) (h8 : ¬ F 8) (h9 : ¬ F 9) : Bufs w' B q3 q4 sb eb := by
  obtain ⟨n3, x3, r3⟩ := h.r3
  obtain ⟨n4, x4, r4⟩ := h.r4
  obtain ⟨cs, l1, b1⟩ := h.bs
  obtain ⟨ce, l2, b2⟩ := h.be
  exact ⟨⟨n3, x3, own_fr r3 hf h3⟩, ⟨n4, x4, own_fr r4 hf h4⟩, ⟨cs, l1, b1.fr hf (h5 _ _ b1)⟩, ⟨ce, l2, b2.fr hf (h5 _ _ b2)⟩, h.ne, h.gs, h.ge, h.nils.fr hf h8 h9, h.b9⟩
theorem Bufs.ct {w w' : World} {B B' : Nat} {q3 q4 : Value} {sb eb : Nat} (h : Bufs w B q3 q4 sb eb) (hf : Fr (CT w B) w w') : Bufs w' B q3 q4 sb eb := by
  obtain ⟨n3, x3, r3⟩ := h.r3
  obtain ⟨n4, x4, r4⟩ := h.r4
  have := h.b9
  exact h.fr hf (own_ct r3 (by decide) (by decide) (by decide)) (own_ct r4 (by decide) (by decide) (by decide)) (fun k cs hb => blk_ct hb (by decide) (by decide) (by decide)) (fun e => by have := e.1; omega) (fun e => by have := e.1; omega)

/-- The compiler with its buffers. -/
def Cp (w : World) (B cb : Nat) (p : List Ins) : Prop := ∃ q3 q4 sb eb, Cm w B cb q3 q4 (bufS sb) (bufS eb) p ∧ Bufs w B q3 q4 sb eb

theorem Cp.ofCt {w w' : World} {B cb : Nat} {q3 q4 : Value} {sb eb : Nat} {p : List Ins} (hb : Bufs w B q3 q4 sb eb) (hf : Fr (CT w B) w w') (h : Cm w' B cb q3 q4 (bufS sb) (bufS eb) p) : Cp w' B cb p := ⟨_, _, _, _, h, hb.ct (B' := B) hf⟩

theorem Cm.ut {w w' : World} {B cb : Nat} {q3 q4 q5 q6 : Value} {p : List Ins} (h : Cm w B cb q3 q4 q5 q6 p) (hf : Fr (UT w B) w w') : Cm w' B cb q3 q4 q5 q6 p := by
  obtain ⟨pv, pl, ps, h⟩ := h
  exact ⟨pv, pl, ps, h.fr hf (blk_ut h.hb (by decide) (by decide) (by decide)) (own_ut h.own (by decide) (by decide) (by decide)) (fun g cs hg => blk_ut hg (by decide) (by decide) (by decide))⟩

/-- The compiler's slices for package utf8 are written. -/
theorem Cm.set3 {w : World} {B cb : Nat} {q3 q4 q5 q6 : Value} {p : List Ins} (h : Cm w B cb q3 q4 q5 q6 p) (v : Value) : Cm (w.setCell ⟨cb, 3, none⟩ v) B cb v q4 q5 q6 p := by
  obtain ⟨pv, pl, ps, h⟩ := h
  have hF : Fr (fun k => k = cb) w (w.setCell ⟨cb, 3, none⟩ v) := Fr.setCell (F := fun k => k = cb) (p := ⟨cb, 3, none⟩) (Fr.refl _ w) (fun _ => rfl) _
  have hn : ∀ g cs, Blk w g cs 105 → ¬ (g = cb) := fun g cs hg e => by subst e; exact absurd (h.hb.inj hg).2 (by decide)
  refine ⟨pv, pl, ps, h.hb.set 3 v, h.len, own_fr h.own hF (fun k hk e => by subst e; exact own_ne_blk h.own h.hb (by decide) hk), h.nle, fun i s x hs hx => ?_, h.nodup, h.pool.fr hF hn, h.geb⟩
  obtain ⟨h1, h2⟩ := h.at_ i s x hs hx
  obtain ⟨cs, hb⟩ := h1.blk
  exact ⟨h1.fr hF (hn _ cs hb), h2⟩
theorem Cm.set4 {w : World} {B cb : Nat} {q3 q4 q5 q6 : Value} {p : List Ins} (h : Cm w B cb q3 q4 q5 q6 p) (v : Value) : Cm (w.setCell ⟨cb, 4, none⟩ v) B cb q3 v q5 q6 p := by
  obtain ⟨pv, pl, ps, h⟩ := h
  have hF : Fr (fun k => k = cb) w (w.setCell ⟨cb, 4, none⟩ v) := Fr.setCell (F := fun k => k = cb) (p := ⟨cb, 4, none⟩) (Fr.refl _ w) (fun _ => rfl) _
  have hn : ∀ g cs, Blk w g cs 105 → ¬ (g = cb) := fun g cs hg e => by subst e; exact absurd (h.hb.inj hg).2 (by decide)
  refine ⟨pv, pl, ps, h.hb.set 4 v, h.len, own_fr h.own hF (fun k hk e => by subst e; exact own_ne_blk h.own h.hb (by decide) hk), h.nle, fun i s x hs hx => ?_, h.nodup, h.pool.fr hF hn, h.geb⟩
  obtain ⟨h1, h2⟩ := h.at_ i s x hs hx
  obtain ⟨cs, hb⟩ := h1.blk
  exact ⟨h1.fr hF (hn _ cs hb), h2⟩
theorem Cm.blk {w : World} {B cb : Nat} {q3 q4 q5 q6 : Value} {p : List Ins} (h : Cm w B cb q3 q4 q5 q6 p) : ∃ pv pl, Blk w cb [.int .u64 10485760, pv, pl, q3, q4, q5, q6] 99 ∧ B ≤ cb := by
  obtain ⟨pv, pl, ps, h⟩ := h
  exact ⟨pv, pl, h.hb, h.geb⟩
theorem Cm.ctb {w : World} {B cb : Nat} {q3 q4 q5 q6 : Value} {p : List Ins} (h : Cm w B cb q3 q4 q5 q6 p) : CT w B cb := by
  obtain ⟨pv, pl, ps, h⟩ := h
  exact h.ct

/-- A row of numbers of one's own is written. -/
theorem Cm.row {w w' : World} {B cb : Nat} {q3 q4 q5 q6 : Value} {p : List Ins} {base n : Nat} {v : Value} {xs : List Value} (h : Cm w B cb q3 q4 q5 q6 p) (ho : w.ownsRow base 46 1 v n xs) (hf : Fr (fun k => v.ownBlock = some k) w w') : Cm w' B cb q3 q4 q5 q6 p := by
  obtain ⟨pv, pl, ps, h⟩ := h
  exact ⟨pv, pl, ps, h.fr hf (own_ne_blk ho h.hb (by decide)) (fun k hk e => own_ne_own h.own ho (by decide) hk e) (fun g cs hg => own_ne_blk ho hg (by decide))⟩
theorem own_ct46 {w w' : World} {base n B : Nat} {v : Value} {xs : List Value} (h : w.ownsRow base 46 1 v n xs) (hf : Fr (CT w B) w w') : w'.ownsRow base 46 1 v n xs := own_fr h hf (own_ct h (by decide) (by decide) (by decide))

/-- A further alternative, as the machine writes it. -/
theorem pre_step (p : List Ins) (cs : List (Nat → List Ins)) (c : Nat → List Ins) {P D : List Ins} (hP : p ++ pre p.length cs 0 = P) (hD : c (P.length + 1) = D) :
    (((P ++ [Ins.split 0 0]) ++ D) ++ [Ins.jmp 0]).set P.length (.split (P ++ [Ins.split 0 0]).length (((P ++ [Ins.split 0 0]) ++ D) ++ [Ins.jmp 0]).length) = p ++ pre p.length (cs ++ [c]) 0 := by
  have h1 : p.length + (pre p.length cs 0).length = P.length := by rw [← hP]; simp
  rw [pre_snoc, h1, hD, ← List.append_assoc, hP]
  simp only [List.append_assoc]
  rw [List.set_append_right _ _ (Nat.le_refl _), Nat.sub_self]
  simp
  omega
theorem jps_step (p : List Ins) (cs : List (Nat → List Ins)) (c : Nat → List Ins) {P D : List Ins} (hP : p ++ pre p.length cs 0 = P) (hD : c (P.length + 1) = D) :
    jps p.length (cs ++ [c]) = jps p.length cs ++ [((P ++ [Ins.split 0 0]) ++ D).length] := by
  have h1 : p.length + (pre p.length cs 0).length = P.length := by rw [← hP]; simp
  rw [jps_snoc p.length cs c 0, h1, hD]
  simp
  omega
theorem alt_step (p : List Ins) (cs : List (Nat → List Ins)) (l : Nat → List Ins) {P D : List Ins} (hP : p ++ pre p.length cs 0 = P) (hD : l P.length = D) :
    setJs (P ++ D) (jps p.length cs) (P ++ D).length = p ++ altc (cs ++ [l]) p.length := by
  have h1 : p.length + (pre p.length cs 0).length = P.length := by rw [← hP]; simp
  rw [altc_snoc, h1, hD]
  have h2 := setJs_pre p cs (P ++ D).length D
  rw [hP] at h2
  rw [h2, List.length_append, List.append_assoc]
end Go.Proofs.YtjeklnbfpehbeaaDoor

/- The walk of '(*compiler).compileClassRange' of package regexp: a range of runes becomes the alternatives of its parts. Condition: fewer than 500000 instructions. -/
namespace Go.Proofs.YtjeklnbfpehbeaaDoor
open Go.RowKit

def partC (q : Nat × Nat) : Nat → List Ins := fun _ => rngs ((enc q.1).zip (enc q.2))
/-- The instructions of a range of runes. -/
def rangeC (a b : Nat) : Nat → List Ins := altc ((parts a b).map partC)

theorem enc_len_le (r : Nat) : (enc r).length ≤ 4 := by
  unfold enc
  split <;> try split <;> try split
  all_goals simp

/-- The first stage: the sequences are laid. -/
def RclsPost (w w' : World) (B cb a b : Nat) (p : List Ins) (q3 q4 : Value) (sb eb : Nat) : Prop :=
  Cm w' B cb q3 q4 (bufS sb) (bufS eb) p ∧ Bufs w' B q3 q4 sb eb ∧ Rows_ w' B q3 (parts a b) ∧ Fr (KT w B) w w'

theorem rcls_stage {w w1 : World} {B cb a b : Nat} {p : List Ins} {q3 q4 v1 v2 : Value} {sb eb : Nat} (h : Cm w B cb q3 q4 (bufS sb) (bufS eb) p) (hb : Bufs w B q3 q4 sb eb) (hw : NspPost w w1 B a b sb eb (.returned (.tuple #[v1, v2, .nilIface]))) :
    RclsPost w ((w1.setCell ⟨cb, 3, none⟩ v1).setCell ⟨cb, 4, none⟩ v2) B cb a b p v1 v2 sb eb := by
  obtain ⟨u1, u2, cs, ce, he, hr, hs, b1, b2, l1, l2, hf⟩ := hw
  simp at he
  obtain ⟨rfl, rfl⟩ := he
  have hc1 := ((h.ut hf).set3 v1).set4 v2
  obtain ⟨pv, pl, hcb, hge⟩ := h.blk
  have hcb1 : Blk w1 cb _ 99 := hcb.fr hf (blk_ut hcb (by decide) (by decide) (by decide))
  have hF3 : Fr (fun k => k = cb) w1 (w1.setCell ⟨cb, 3, none⟩ v1) := Fr.setCell (F := fun k => k = cb) (p := ⟨cb, 3, none⟩) (Fr.refl _ w1) (fun _ => rfl) _
  have hF : Fr (fun k => k = cb) w1 ((w1.setCell ⟨cb, 3, none⟩ v1).setCell ⟨cb, 4, none⟩ v2) := Fr.setCell (F := fun k => k = cb) (p := ⟨cb, 4, none⟩) hF3 (fun _ => rfl) _
  have hb9 := hb.b9
  have n : ∀ {k : Nat} {cs : List Value} {t : TypeId}, Blk w1 k cs t → t ≠ 99 → ¬ (k = cb) := fun hk ht e => by subst e; exact ht (hk.inj hcb1).2
  obtain ⟨vs, h5, h6⟩ := hr
  have hcbl := hcb.lt
  refine ⟨hc1, ?_, Rows_.fr ⟨vs, h5, h6⟩ hF (fun k hk e => by subst e; exact own_ne_blk h5 hcb1 (by decide) hk) (fun k cs hk => n hk (by decide)), ?_⟩
  · have hb1 : Bufs w1 B v1 v2 sb eb := ⟨⟨_, _, h5⟩, ⟨_, _, hs⟩, ⟨cs, l1, b1⟩, ⟨ce, l2, b2⟩, hb.ne, hb.gs, hb.ge, hb.nils.fr hf (fun e => by have := e.1; omega) (fun e => by have := e.1; omega), hb.b9⟩
    exact hb1.fr hF (fun k hk e => by subst e; exact own_ne_blk h5 hcb1 (by decide) hk) (fun k hk e => by subst e; exact own_ne_blk hs hcb1 (by decide) hk) (fun k cs hk => n hk (by decide)) (by omega) (by omega)
  · refine (ut_kt hf).trans hF (fun k _ e => ?_)
    subst e
    exact .inl ⟨hge, _, _, hcb, .inl rfl⟩

set_option maxRecDepth 100000 in
set_option maxHeartbeats 8000000 in
theorem rcls_calls {w : World} {B cb a b : Nat} {p : List Ins} (h : Cp w B cb p) (hab : okRange a b) (hB : B ≤ w.heap.size) (hl : p.length ≤ 500000) :
    Calls Tryd.prog 75 #[.pointer (some ⟨cb, 0, none⟩), .int .i32 (a : Int), .int .i32 (b : Int)] w fun e w' => e = .returned .nilIface ∧ Cp w' B cb (p ++ rangeC a b p.length) ∧ Fr (KT w B) w w' := by
  obtain ⟨q3, q4, sb, eb, hc, hbf⟩ := h
  obtain ⟨pv, pl, hcb, hge⟩ := hc.blk
  obtain ⟨n3, x3, r3⟩ := hbf.r3
  obtain ⟨n4, x4, r4⟩ := hbf.r4
  obtain ⟨cs, l1, b1⟩ := hbf.bs
  obtain ⟨ce, l2, b2⟩ := hbf.be
  have hn := nsp_calls (w := w.drew) hab hB r3 r4 b1.drew b2.drew l1 l2 hbf.ne hbf.gs hbf.ge (hbf.nils.fr ((Fr.refl (fun _ => False) w).drew) (fun h => h) (fun h => h)) hbf.b9
  have hcd := hc.drop ((Fr.refl (fun _ => False) w).drew)
  have hbd := hbf.fr ((Fr.refl (fun _ => False) w).drew) (fun _ _ h => h) (fun _ _ h => h) (fun _ _ _ h => h) (fun h => h) (fun h => h)
  have k3 : w.drew.cell? ⟨cb, 3, none⟩ = some q3 := hcb.drew.cell 3 rfl
  have k4 : w.drew.cell? ⟨cb, 4, none⟩ = some q4 := hcb.drew.cell 4 rfl
  have k5 : w.drew.cell? ⟨cb, 5, none⟩ = some (bufS sb) := hcb.drew.cell 5 rfl
  have k6 : w.drew.cell? ⟨cb, 6, none⟩ = some (bufS eb) := hcb.drew.cell 6 rfl
  have HH := Lib.hid (And.intro hcd (And.intro hbd hcb))
  clear hc hbf hcb r3 r4 b1 b2 hcd hbd
  go_enter Tryd.func75, Tryd.ntmps75
  go_wp2_with fail
  refine wp_region_seqV (fun w' => w'.cell? ⟨cb, 3, none⟩ = some q3 ∧ w'.cell? ⟨cb, 4, none⟩ = some q4 ∧ w'.cell? ⟨cb, 5, none⟩ = some (bufS sb) ∧ w'.cell? ⟨cb, 6, none⟩ = some (bufS eb)) (fun i => decide (i < 20) || [21, 22, 23, 24].contains i) (fun i => ![7, 11, 15, 19].contains i && decide (i < 25) && decide (i ≠ 20)) (fun i => decide (i = 20) || decide (25 ≤ i)) [0, 1, 2, 3, 4, 5, 6, 7, 8, 9, 10, 11, 12, 13, 14, 15, 16, 17, 18, 19, 20, 21, 22, 23, 24, 25, 26, 27, 28, 29, 30, 31] (by kernel_rfl) (by kernel_rfl) (fun c a d v w h => by cases d <;> exact h) ⟨k3, k4, k5, k6⟩ ?_
  iterate 7 (apply seqV_pure (ho := rfl) (hr := rfl) (hg := rfl); (intro w'; go_simp; rfl))
  (apply seqV_read (ho := rfl) (hr := rfl) (hp := rfl) (hg := rfl); (rintro w' ⟨q1, q2, q3, q4⟩; go_simp; rfl))
  iterate 3 (apply seqV_pure (ho := rfl) (hr := rfl) (hg := rfl); (intro w'; go_simp; rfl))
  (apply seqV_read (ho := rfl) (hr := rfl) (hp := rfl) (hg := rfl); (rintro w' ⟨q1, q2, q3, q4⟩; go_simp; rfl))
  iterate 3 (apply seqV_pure (ho := rfl) (hr := rfl) (hg := rfl); (intro w'; go_simp; rfl))
  (apply seqV_read (ho := rfl) (hr := rfl) (hp := rfl) (hg := rfl); (rintro w' ⟨q1, q2, q3, q4⟩; go_simp; rfl))
  iterate 3 (apply seqV_pure (ho := rfl) (hr := rfl) (hg := rfl); (intro w'; go_simp; rfl))
  (apply seqV_read (ho := rfl) (hr := rfl) (hp := rfl) (hg := rfl); (rintro w' ⟨q1, q2, q3, q4⟩; go_simp; rfl))
  refine seqV_do rfl rfl fun K hK => ?_
  go_simp
  refine hn.mono ?_
  rintro e w1 hpost
  obtain ⟨m, hm⟩ : ∃ m, (parts a b).length = m + 1 := ⟨(parts a b).length - 1, by have := (parts_len hab).1; omega⟩
  have hm18 : m ≤ 18 := by have := (parts_len hab).2; have := rest_le a b; omega
  obtain ⟨gA, gc, A4, c4, rfl⟩ : ∃ gA gc A4 c4, e = .returned (.tuple #[.slice (some ⟨gA, 0, none⟩) (m + 1) gc, .slice A4 0 c4, .nilIface]) := by
    obtain ⟨v1, v2, cs, ce, he, ⟨vs, hr, -⟩, hs, -⟩ := hpost
    rw [hm] at hr
    obtain ⟨gA, gc, rfl⟩ := own_slc hr
    obtain ⟨A4, c4, rfl⟩ := own_sl' hs
    exact ⟨gA, gc, A4, c4, he⟩
  refine hK _ _ (fun h => absurd h (by decide)) ?_
  clear hK K
  iterate 4 (apply seqV_pure (ho := rfl) (hr := rfl) (hg := rfl); (intro w'; go_simp; rfl))
  obtain ⟨hcd, hbd, hcb⟩ := HH.out
  have hst := rcls_stage hcd hbd hpost
  have hcb1 : Blk w1 cb [.int .u64 10485760, pv, pl, q3, q4, bufS sb, bufS eb] 99 := by
    obtain ⟨-, -, -, -, -, -, -, -, -, -, -, hf⟩ := hpost
    exact hcb.drew.fr hf (blk_ut hcb (by decide) (by decide) (by decide))
  have x3 := hcb1.cell 3 rfl
  have f3 := hcb1.frz 3
  have x4 := (hcb1.set 3 (.slice (some ⟨gA, 0, none⟩) (m + 1) gc)).cell 4 rfl
  have f4 := (hcb1.set 3 (.slice (some ⟨gA, 0, none⟩) (m + 1) gc)).frz 4
  have HS := Lib.hid hst
  clear hcb1 hcd hbd hcb hst hpost hn k3 k4 k5 k6 HH
  refine seqV_do rfl rfl fun K hK => ?_
  go_simp
  refine hK _ _ (fun h => absurd h (by decide)) ?_
  clear hK K
  refine seqV_do rfl rfl fun K hK => ?_
  go_simp
  refine hK _ _ (fun h => absurd h (by decide)) ?_
  clear hK K
  refine seqV_do rfl rfl fun K hK => ?_
  go_simp
  refine hK _ _ (fun h => absurd h (by decide)) ?_
  clear hK K
  refine seqV_do rfl rfl fun K hK => ?_
  go_simp
  refine hK _ _ (fun h => absurd h (by decide)) ?_
  clear hK K
  refine seqV_do rfl rfl fun K hK => ?_
  go_simp
  refine hK _ _ (fun h => absurd h (by decide)) ?_
  clear hK K
  refine seqV_do rfl rfl fun K hK => ?_
  go_simp
  refine hK _ _ (fun h => absurd h (by decide)) ?_
  clear hK K
  refine seqV_do rfl rfl fun K hK => ?_
  go_simp
  refine hK _ _ (fun h => absurd h (by decide)) ?_
  clear hK K
  unfold seqV
  generalize hW : ((w1.setCell ⟨cb, 3, none⟩ (.slice (some ⟨gA, 0, none⟩) (m + 1) gc)).setCell ⟨cb, 4, none⟩ (.slice A4 0 c4)) = W at *
  obtain ⟨hcm, hbf, hrw, hfw⟩ := HS.out
  obtain ⟨pv2, pl2, hcb2, hge2⟩ := hcm.blk
  have y3 := hcb2.cell 3 rfl
  have hWB : B ≤ W.heap.size := Nat.le_trans hB hfw.size
  have hmk : ∀ X : World, (Instr.makeSlice 113 (.int .i64 0) (.int .i64 (m : Int))).run Tryd.prog X = .ok (.slice (some ⟨X.heap.size, 0, none⟩) 0 m) (X.alloc (.cells (u64s (List.replicate m 0)).toArray 46)) := fun X => run_mk_u64 0 m (by omega) (by omega) .i64 .i64 X
  have hjo : (W.alloc (.cells (u64s (List.replicate m 0)).toArray 46)).ownsRow W.heap.size 46 1 (.slice (some ⟨W.heap.size, 0, none⟩) 0 m) 0 [] := by
    have := own_of_blk (base := W.heap.size) (n := 0) (c := m) (size := 1) (Blk.new W (u64s (List.replicate m 0)) 46) (Nat.le_refl _) (Nat.zero_le _) (by simp only [maxLen]; omega) (by simp [u64s])
    simpa using this
  have hFa : Fr (CT W B) W (W.alloc (.cells (u64s (List.replicate m 0)).toArray 46)) := (Fr.refl _ W).alloc _
  have hca := hcm.drop ((Fr.refl (fun _ => False) W).alloc (.cells (u64s (List.replicate m 0)).toArray 46))
  generalize hC : (u64s (List.replicate m 0)).toArray = C at *
  obtain ⟨bl, hbl⟩ : ∃ bl, bl = (parts a b).map partC := ⟨_, rfl⟩
  have hbll : bl.length = m + 1 := by rw [hbl]; simpa using hm
  have hblc : ∀ c, c ∈ bl → ∀ o, (c o).length ≤ 4 := by
    intro c hc o
    rw [hbl] at hc
    obtain ⟨q, -, rfl⟩ := List.mem_map.1 hc
    simp only [partC, rngs, List.length_map, List.length_zip]
    have := enc_len_le q.1
    omega
  have hpl : ∀ k, (p ++ pre p.length (bl.take k) 0).length ≤ p.length + 6 * k := fun k => by
    have := pre_len_le 4 p.length (bl.take k) 0 (fun c hc => hblc c (List.mem_of_mem_take hc))
    rw [List.length_append]
    have h2 : (bl.take k).length ≤ k := by rw [List.length_take]; omega
    omega
  have HB := Lib.hid (And.intro hbl (And.intro hC (And.intro hW (And.intro HS.out (And.intro hbf (And.intro hrw hfw))))))
  clear hcb2 hbl hC hW HS hcm hbf hrw hfw x3 x4 f3 f4
  go_wp2_with fail
  clear y3 hmk
  go_loopg [7, 8] (m + 1) (fun g jm i wr => ∃ k : Nat, k ≤ m ∧ g = m - k + 1 ∧ i = .int .i64 (k : Int) ∧ Cm wr B cb (.slice (some ⟨gA, 0, none⟩) (m + 1) gc) (.slice A4 0 c4) (bufS sb) (bufS eb) (p ++ pre p.length (bl.take k) 0) ∧ wr.ownsRow W.heap.size 46 1 jm k (u64s (jps p.length (bl.take k))) ∧ Fr (CT W B) W wr)
  case atStart => exact ⟨0, by omega, by omega, rfl, by simpa [pre] using hca, by simpa [jps, u64s] using hjo, hFa⟩
  case round =>
    clear hca hjo hFa
    obtain ⟨k, hk, rfl, rfl, hcm, hjo, hF⟩ := hrel
    obtain ⟨pv, pl, hcb, -⟩ := hcm.blk
    have y3 := hcb.cell 3 rfl
    have hB1 : B ≤ wr.heap.size := Nat.le_trans hWB hF.size
    have hPl := hpl k
    clear hcb
    by_cases hlt : k < m
    · have e1 : (k : Int) < (m : Int) := by omega
      obtain ⟨hbl, hC, hW, hpo, hbf, hrw, hfw⟩ := HB.out
      obtain ⟨q, hq⟩ : ∃ q, (parts a b)[k]? = some q := ⟨_, List.getElem?_eq_getElem (by omega)⟩
      obtain ⟨vs, ho, hvs⟩ := hrw
      obtain ⟨u, hu, hsq⟩ := hvs k q hq
      have hsq1 := hsq.ct hF
      obtain ⟨g', c', he, -, -, hrc, -⟩ := own_cell (own_fr ho hF (own_ct ho (by decide) (by decide) (by decide))) hu
      simp at he
      obtain ⟨rfl, -, rfl⟩ := he
      obtain ⟨uA, um, uc, rfl⟩ : ∃ A m c, u = .slice A m c := by
        obtain ⟨A, c, h, -⟩ := hsq
        exact ⟨A, _, c, h⟩
      have hbk : bl[k]? = some (partC q) := by rw [hbl, List.getElem?_map, hq]; rfl
      have htk : bl.take (k + 1) = bl.take k ++ [partC q] := take_snoc_getElem? hbk
      generalize hP0 : p ++ pre p.length (bl.take k) 0 = P at *
      have hP := Lib.hid hP0
      clear hP0
      obtain ⟨n0, hn0⟩ : ∃ n0, Hid (n0 = P.length) := ⟨_, Lib.hid rfl⟩
      have hsp := split_calls hcm hB1 (by omega)
      rw [← hn0.out] at hsp
      clear hbl hC hW hpo hbf hfw hvs hsq ho hu hq
      go_wp2_with fail
      refine hsp.mono ?_
      rintro e w2 ⟨rfl, hcm2, hF2⟩
      clear hsp
      have htp := top_calls hcm2 (by simp; omega)
      obtain ⟨n1, hn1⟩ : ∃ n1, Hid (n1 = (P ++ [Ins.split 0 0]).length) := ⟨_, Lib.hid rfl⟩
      rw [← hn1.out] at htp
      go_wp2_with fail
      refine htp.mono ?_
      rintro e w2' ⟨rfl, rfl⟩
      clear htp
      have hsq2 := hsq1.ct hF2
      have hB2 : B ≤ w2.heap.size := Nat.le_trans hB1 hF2.size
      have hql : ((enc q.1).zip (enc q.2)).length ≤ 4 := by rw [List.length_zip]; have := enc_len_le q.1; omega
      have hsc := seq_calls hcm2 hB2 hsq2 (by simp only [List.length_append, List.length_cons, List.length_nil]; omega)
      have hjo2 := own_ct46 hjo hF2
      clear hsq1 hsq2 hjo hcm2
      go_wp2_with fail
      refine hsc.mono ?_
      rintro e w3 ⟨rfl, hcm3, hF3⟩
      clear hsc
      have hB3 : B ≤ w3.heap.size := Nat.le_trans hB2 hF3.size
      have hjo3 := own_ct46 hjo2 hF3
      have hln : (P ++ [Ins.split 0 0] ++ rngs ((enc q.1).zip (enc q.2))).length ≤ 600000 := by simp only [List.length_append, rngs, List.length_map, List.length_cons, List.length_nil]; omega
      have hjc := jump_calls hcm3 hB3 (by omega)
      obtain ⟨n3', hn3⟩ : ∃ n, Hid (n = (P ++ [Ins.split 0 0] ++ rngs ((enc q.1).zip (enc q.2))).length) := ⟨_, Lib.hid rfl⟩
      rw [← hn3.out] at hjc hln
      clear hcm3 hjo2
      go_wp2_with fail
      refine hjc.mono ?_
      rintro e w4 ⟨rfl, hcm4, hF4⟩
      clear hjc
      have hjo4 := own_ct46 hjo3 hF4
      have hF14 := ct_trans (ct_trans hF2 hF3) hF4
      have hWl : W.heap.size ≤ w4.heap.size := Nat.le_trans hF.size hF14.size
      have HC := Lib.hid (And.intro hcm4 (And.intro hF14 (And.intro hF (And.intro hn0 (And.intro hn1 (And.intro hn3 (And.intro hP htk)))))))
      clear hcm4 hF14 hF hn0 hn1 hn3 hP htk hjo3 hF2 hF3 hF4 hrc
      go_wp2_with (at_builtin; ((refine app1b w4 w4.heap.size rfl rfl _ _ 113 rfl W.heap.size 46 (.int .u64 0) 1 8 Tryd.underlying113 (by kernel_rfl) rfl (by decide) u7 k _ [.int .u64 (n3' : Int)] rfl rfl hjo4 rfl (by simp [Value.oneCell']) (by omega) (by decide) hWl ?_); intro jm' w5 ho5 hf5 hn5; obtain ⟨gj, cj, rfl⟩ := own_slc ho5))
      obtain ⟨hcm4, hF14, hF, hn0, hn1, hn3, hP, htk⟩ := HC.out
      have hcm5 := hcm4.row hjo4 hf5
      have htp := top_calls hcm5 (by rw [List.length_append, ← hn3.out]; simp only [List.length_cons, List.length_nil]; omega)
      obtain ⟨n5, hn5'⟩ : ∃ n, n = (P ++ [Ins.split 0 0] ++ rngs ((enc q.1).zip (enc q.2)) ++ [Ins.jmp 0]).length := ⟨_, rfl⟩
      rw [← hn5'] at htp
      have hi : (P ++ [Ins.split 0 0] ++ rngs ((enc q.1).zip (enc q.2)) ++ [Ins.jmp 0])[n0]? = some (.split 0 0) := by
        rw [hn0.out]; simp
      have hss := setsplit_calls hcm5 hi n1 n5
      have hFW5 : Fr (CT W B) W w5 := (ct_trans hF hF14).trans hf5 (fun i hi e => by have := (own_lt' hjo4 e).1; omega)
      have HE := Lib.hid (And.intro hFW5 (And.intro hn0 (And.intro hn1 (And.intro hn3 (And.intro hn5' (And.intro hP htk))))))
      clear hcm4 hF14 hF hn0 hn1 hn3 hn5' hP htk hcm5 HC hjo4 hf5 hn5 hi hFW5
      go_wp2_with fail
      refine htp.mono ?_
      rintro e w5' ⟨rfl, rfl⟩
      clear htp
      go_wp2_with fail
      refine hss.mono ?_
      rintro e w6 ⟨rfl, hcm6, hF6⟩
      clear hss
      go_wp2_with fail
      go_roundg (m - (k + 1) + 1)
      case measure => omega
      case rel =>
        obtain ⟨hFW5, hn0, hn1, hn3, hn5', hP, htk⟩ := HE.out
        refine ⟨k + 1, by omega, rfl, by simp, ?_, ?_, ct_trans hFW5 hF6⟩
        · rw [htk, ← pre_step p (bl.take k) (partC q) hP.out rfl]
          rw [hn0.out, hn1.out, hn5'] at hcm6
          exact hcm6
        · rw [htk, jps_step p (bl.take k) (partC q) hP.out rfl]
          have := own_ct46 ho5 hF6
          rw [hn3.out] at this
          simpa [u64s, partC] using this
    · obtain rfl : k = m := by omega
      have e1 : ¬ ((k : Int) < (k : Int)) := by omega
      obtain ⟨hbl, hC, hW, hpo, hbf, hrw, hfw⟩ := HB.out
      obtain ⟨q, hq⟩ : ∃ q, (parts a b)[k]? = some q := ⟨_, List.getElem?_eq_getElem (by omega)⟩
      obtain ⟨vs, ho, hvs⟩ := hrw
      obtain ⟨u, hu, hsq⟩ := hvs k q hq
      have hsq1 := hsq.ct hF
      have ho1 := own_fr ho hF (own_ct ho (by decide) (by decide) (by decide))
      obtain ⟨g', c', he, -, -, hrc, -⟩ := own_cell ho1 hu
      simp at he
      obtain ⟨rfl, -, rfl⟩ := he
      obtain ⟨uA, um, uc, rfl⟩ : ∃ A m c, u = .slice A m c := by
        obtain ⟨A, c, h, -⟩ := hsq
        exact ⟨A, _, c, h⟩
      have hbk : bl[k]? = some (partC q) := by rw [hbl, List.getElem?_map, hq]; rfl
      have htk : bl = bl.take k ++ [partC q] := by
        rw [← take_snoc_getElem? hbk, List.take_of_length_le (by omega)]
      generalize hP0 : p ++ pre p.length (bl.take k) 0 = P at *
      have hql : ((enc q.1).zip (enc q.2)).length ≤ 4 := by rw [List.length_zip]; have := enc_len_le q.1; omega
      have hsc := seq_calls (hcm.drop ((Fr.refl (fun _ => False) wr).drew)) hB1 (hsq1.ct (B := B) ((Fr.refl _ wr).drew)) (by omega)
      have r3 : wr.drew.cell? ⟨cb, 3, none⟩ = some (.slice (some ⟨gA, 0, none⟩) (k + 1) gc) := y3
      have rr : wr.drew.cell? ⟨gA, k, none⟩ = some (.slice uA um uc) := hrc
      have HX := Lib.hid (And.intro hbl (And.intro hC (And.intro hW (And.intro hbf (And.intro hfw (And.intro hP0 (And.intro htk (And.intro hF hjo))))))))
      have HO := Lib.hid (And.intro ho1 hu)
      clear hbl hC hW hpo hbf hfw ho hvs hsq hsq1 hq hbk htk hP0 hF hjo hcm hu ho1 hrc
      go_wp2_with fail
      clear y3
      have ew : IntKind.i64.wrap (k : Int) = (k : Int) := IntWalk.i64_in _ (by omega)
      have ek0 : (0 : Int) ≤ (k : Int) := by omega
      have ek1 : (k : Int) < (k : Int) + 1 := by omega
      refine wp_region_seqV (fun w' => w'.cell? ⟨cb, 3, none⟩ = some (.slice (some ⟨gA, 0, none⟩) (k + 1) gc) ∧ w'.cell? ⟨gA, k, none⟩ = some (.slice uA um uc)) (fun i => decide (i < 13)) (fun i => ![4, 8, 12].contains i && decide (i < 13)) (fun i => false) [0, 1, 2, 3, 4, 5, 6, 7, 8, 9, 10, 11, 12, 13] (by kernel_rfl) (by kernel_rfl) (fun c a d v w h => by cases d <;> exact h) ⟨r3, rr⟩ ?_
      iterate 4 (apply seqV_pure (ho := rfl) (hr := rfl) (hg := rfl); (intro w'; go_simp; rfl))
      (apply seqV_read (ho := rfl) (hr := rfl) (hp := rfl) (hg := rfl); (rintro w' ⟨q1, q2⟩; go_simp; rfl))
      iterate 3 (apply seqV_pure (ho := rfl) (hr := rfl) (hg := rfl); (intro w'; go_simp; rfl))
      (apply seqV_read (ho := rfl) (hr := rfl) (hp := rfl) (hg := rfl); (rintro w' ⟨q1, q2⟩; go_simp; rfl))
      iterate 3 (apply seqV_pure (ho := rfl) (hr := rfl) (hg := rfl); (intro w'; go_simp; rfl))
      (apply seqV_read (ho := rfl) (hr := rfl) (hp := rfl) (hg := rfl); (rintro w' ⟨q1, q2⟩; go_simp; rfl))
      refine seqV_do rfl rfl fun K hK => ?_
      go_simp
      refine hsc.mono ?_
      rintro e w2 ⟨rfl, hcm2, hF2⟩
      obtain ⟨hbl, hC, hW, hbf, hfw, hP0, htk, hF, hjo⟩ := HX.out
      have hF2' : Fr (CT wr B) wr w2 := ct_trans ((Fr.refl (CT wr B) wr).drew) hF2
      obtain ⟨pv4, pl4, hcb4, -⟩ := hcm2.blk
      obtain ⟨g4, c4', he4, -, -, hrc4, -⟩ := own_cell (own_fr HO.out.1 hF2' (own_ct HO.out.1 (by decide) (by decide) (by decide))) HO.out.2
      simp at he4
      obtain ⟨rfl, -, rfl⟩ := he4
      refine hK _ _ (fun _ => ⟨hcb4.cell 3 rfl, hrc4⟩) ?_
      clear hK K
      unfold seqV
      have htp := top_calls hcm2 (by rw [List.length_append]; simp only [rngs, List.length_map]; omega)
      obtain ⟨en, hen⟩ : ∃ n, Hid (n = (P ++ rngs ((enc q.1).zip (enc q.2))).length) := ⟨_, Lib.hid rfl⟩
      rw [← hen.out] at htp
      have hjo2 := own_ct46 hjo hF2'
      have hF3 := ct_trans hF hF2'
      obtain ⟨js, hjs⟩ : ∃ js, Hid (js = jps p.length (bl.take k)) := ⟨_, Lib.hid rfl⟩
      rw [← hjs.out] at hjo2
      have hjl : js.length = k := by rw [hjs.out, jps_len, List.length_take]; omega
      obtain ⟨jA, jc, rfl⟩ := own_sl' hjo2
      have HX2 := Lib.hid (And.intro hbl (And.intro hbf (And.intro hfw (And.intro hP0 htk))))
      clear hbl hC hW hbf hfw hP0 htk hF hjo hF2 hF2' HO hcb4 hrc4 HX r3 rr hsc
      go_wp2_with fail
      refine htp.mono ?_
      rintro e w2' ⟨rfl, rfl⟩
      clear htp
      go_wp2_with fail
      go_loopg [109] (k + 1) (fun g i wr2 => ∃ j : Nat, j ≤ k ∧ g = k - j + 1 ∧ i = .int .i64 (j : Int) ∧ Cm wr2 B cb (.slice (some ⟨gA, 0, none⟩) (k + 1) gc) (.slice A4 0 c4) (bufS sb) (bufS eb) (setJs (P ++ rngs ((enc q.1).zip (enc q.2))) (js.take j) en) ∧ Fr (CT W B) W wr2 ∧ wr2.ownsRow W.heap.size 46 1 (.slice jA k jc) k (u64s js))
      case atStart => exact ⟨0, by omega, by omega, rfl, by simpa [setJs] using hcm2, hF3, hjo2⟩
      case round =>
        clear hcm2 hF3 hjo2
        obtain ⟨j, hj, rfl, rfl, hcm, hF, hjo⟩ := hrel
        by_cases hjk : j < k
        · have e2 : (j : Int) < (k : Int) := by omega
          obtain ⟨t, ht⟩ : ∃ t, js[j]? = some t := ⟨_, List.getElem?_eq_getElem (by omega)⟩
          obtain ⟨g5, c5, he5, -, -, hrj, -⟩ := own_cell hjo (j := j) (u := .int .u64 (t : Int)) (by simp [u64s, ht])
          simp at he5
          obtain ⟨rfl, rfl⟩ := he5
          obtain ⟨a0, ha0⟩ : ∃ a0, (setJs (P ++ rngs ((enc q.1).zip (enc q.2))) (js.take j) en)[t]? = some (.jmp a0) := by
            obtain ⟨hbl, hbf, hfw, hP0, htk⟩ := HX2.out
            refine setJs_jmp (a := 0) ?_
            rw [← hP0]
            exact pre_jmp p (bl.take k) 0 _ t (by rw [← hjs.out]; exact List.mem_of_getElem? ht)
          have hsj := setjump_calls hcm ha0 en
          have HF := Lib.hid (And.intro hF (And.intro hjo ht))
          clear hcm hF hjo ht ha0
          go_wp2_with fail
          refine hsj.mono ?_
          rintro e w4 ⟨rfl, hcm4, hF4⟩
          clear hsj
          go_wp2_with fail
          go_roundg (k - (j + 1) + 1)
          case measure => omega
          case rel =>
            obtain ⟨hF, hjo, ht⟩ := HF.out
            refine ⟨j + 1, by omega, rfl, by simp, ?_, ct_trans hF hF4, own_ct46 hjo hF4⟩
            rw [take_snoc_getElem? ht, setJs_snoc]
            exact hcm4
        · obtain rfl : j = k := by omega
          have e2 : ¬ ((j : Int) < (j : Int)) := by omega
          go_wp2_with fail
          go_ret
          obtain ⟨hbl, hbf, hfw, hP0, htk⟩ := HX2.out
          refine ⟨rfl, ?_, ?_⟩
          · refine Cp.ofCt hbf hF ?_
            rw [List.take_of_length_le (by omega), hjs.out, hen.out, alt_step p (bl.take j) (partC q) hP0 (D := rngs ((enc q.1).zip (enc q.2))) rfl, ← htk, hbl] at hcm
            exact hcm
          · exact kt_trans ((Fr.refl (KT w B) w).drew.trans hfw (fun _ _ h => h)) (ct_kt hF)
end Go.Proofs.YtjeklnbfpehbeaaDoor

/- The small methods of the compiler, its buffers beside. Condition: fewer than 10^6 instructions. -/
namespace Go.Proofs.YtjeklnbfpehbeaaDoor
open Go.RowKit

section
variable {w w' : World} {B cb : Nat} {p : List Ins}
theorem cp_split (h : Cp w B cb p) (hB : B ≤ w.heap.size) (hl : p.length ≤ 1000000) :
    Calls Tryd.prog 52 #[.pointer (some ⟨cb, 0, none⟩)] w fun e w' => e = .returned (.int .u64 (p.length : Int)) ∧ Cp w' B cb (p ++ [.split 0 0]) ∧ Fr (KT w B) w w' := by
  obtain ⟨q3, q4, sb, eb, h1, h2⟩ := h
  exact (split_calls h1 hB hl).mono fun e w' ⟨x1, x2, x3⟩ => ⟨x1, Cp.ofCt h2 x3 x2, ct_kt x3⟩
theorem cp_jump (h : Cp w B cb p) (hB : B ≤ w.heap.size) (hl : p.length ≤ 1000000) :
    Calls Tryd.prog 54 #[.pointer (some ⟨cb, 0, none⟩)] w fun e w' => e = .returned (.int .u64 (p.length : Int)) ∧ Cp w' B cb (p ++ [.jmp 0]) ∧ Fr (KT w B) w w' := by
  obtain ⟨q3, q4, sb, eb, h1, h2⟩ := h
  exact (jump_calls h1 hB hl).mono fun e w' ⟨x1, x2, x3⟩ => ⟨x1, Cp.ofCt h2 x3 x2, ct_kt x3⟩
theorem cp_top (h : Cp w B cb p) (hl : p.length ≤ 1000000) : Calls Tryd.prog 53 #[.pointer (some ⟨cb, 0, none⟩)] w fun e w' => e = .returned (.int .u64 (p.length : Int)) ∧ w = w' := by
  obtain ⟨q3, q4, sb, eb, h1, h2⟩ := h
  exact top_calls h1 (by omega)
theorem cp_setsplit (h : Cp w B cb p) {i a b : Nat} (hi : p[i]? = some (.split a b)) (c d : Nat) :
    Calls Tryd.prog 55 #[.pointer (some ⟨cb, 0, none⟩), .int .u64 (i : Int), .int .u64 (c : Int), .int .u64 (d : Int)] w fun e w' => e = .returned (.tuple #[]) ∧ Cp w' B cb (p.set i (.split c d)) ∧ Fr (KT w B) w w' := by
  obtain ⟨q3, q4, sb, eb, h1, h2⟩ := h
  exact (setsplit_calls h1 hi c d).mono fun e w' ⟨x1, x2, x3⟩ => ⟨x1, Cp.ofCt h2 x3 x2, ct_kt x3⟩
theorem cp_setjump (h : Cp w B cb p) {i a : Nat} (hi : p[i]? = some (.jmp a)) (c : Nat) :
    Calls Tryd.prog 56 #[.pointer (some ⟨cb, 0, none⟩), .int .u64 (i : Int), .int .u64 (c : Int)] w fun e w' => e = .returned (.tuple #[]) ∧ Cp w' B cb (p.set i (.jmp c)) ∧ Fr (KT w B) w w' := by
  obtain ⟨q3, q4, sb, eb, h1, h2⟩ := h
  exact (setjump_calls h1 hi c).mono fun e w' ⟨x1, x2, x3⟩ => ⟨x1, Cp.ofCt h2 x3 x2, ct_kt x3⟩

theorem own_kt46 {base n : Nat} {v : Value} {xs : List Value} (h : w.ownsRow base 46 1 v n xs) (hf : Fr (KT w B) w w') : w'.ownsRow base 46 1 v n xs :=
  own_fr h hf (fun k hk hc => hc.elim (own_ct h (by decide) (by decide) (by decide) k hk) (own_ut h (by decide) (by decide) (by decide) k hk))
/-- A row of numbers of one's own is written. -/
theorem Cp.row {base n : Nat} {v : Value} {xs : List Value} (h : Cp w B cb p) (ho : w.ownsRow base 46 1 v n xs) (hb : B ≤ base) (hf : Fr (fun k => v.ownBlock = some k) w w') : Cp w' B cb p := by
  obtain ⟨q3, q4, sb, eb, h1, h2⟩ := h
  obtain ⟨n3, x3, r3⟩ := h2.r3
  obtain ⟨n4, x4, r4⟩ := h2.r4
  have h9 := h2.b9
  refine ⟨q3, q4, sb, eb, h1.row ho hf, h2.fr hf (fun k hk e => own_ne_own r3 ho (by decide) hk e) (fun k hk e => own_ne_own r4 ho (by decide) hk e) (fun k cs hk => own_ne_blk ho hk (by decide)) (fun e => ?_) (fun e => ?_)⟩
  · have := (own_lt' ho e).1; omega
  · have := (own_lt' ho e).1; omega
theorem Cp.drop (h : Cp w B cb p) (hf : Fr (fun _ => False) w w') : Cp w' B cb p := by
  obtain ⟨q3, q4, sb, eb, h1, h2⟩ := h
  exact ⟨q3, q4, sb, eb, h1.drop hf, h2.fr hf (fun _ _ h => h) (fun _ _ h => h) (fun _ _ _ h => h) (fun h => h) (fun h => h)⟩
theorem kt_row {W : World} {base n : Nat} {v : Value} {xs : List Value} (h : Fr (KT W B) W w) (ho : w.ownsRow base 46 1 v n xs) (hb : W.heap.size ≤ base) (hf : Fr (fun k => v.ownBlock = some k) w w') : Fr (KT W B) W w' :=
  h.trans hf (fun i hi e => by have := (own_lt' ho e).1; omega)
theorem kt_drop (h : Fr (fun _ => False) w w') : Fr (KT w B) w w' := h.mono (fun _ _ h => h.elim)
end
end Go.Proofs.YtjeklnbfpehbeaaDoor

/- The walk of '(*compiler).compileClass' of package regexp: pairs of runes become alternatives. Condition: at most 1000 pairs, and fewer than 300000 instructions. -/
namespace Go.Proofs.YtjeklnbfpehbeaaDoor
open Go.RowKit

/-- The slice v of runes reads as rs. -/
def RunesAt (w : World) (v : Value) (rs : List Nat) : Prop :=
  ∃ (A : Option Addr) (c : Nat), v = .slice A rs.length c ∧ ∀ (i : Nat) (r : Nat), rs[i]? = some r → ∃ b o cs t, A = some ⟨b, o, none⟩ ∧ (t = 21 ∨ t = 77) ∧ Blk w b cs t ∧ w.cell? ⟨b, o + i, none⟩ = some (.int .i32 (r : Int))
theorem RunesAt.fr {w w' : World} {v : Value} {rs : List Nat} {F : Nat → Prop} (h : RunesAt w v rs) (hf : Fr F w w') (hn : ∀ k cs t, Blk w k cs t → t = 21 ∨ t = 77 → ¬ F k) : RunesAt w' v rs := by
  obtain ⟨A, c, h1, h2⟩ := h
  refine ⟨A, c, h1, fun i r hr => ?_⟩
  obtain ⟨b, o, cs, t, h3, ht, h4, h5⟩ := h2 i r hr
  have := hn b cs t h4 ht
  exact ⟨b, o, cs, t, h3, ht, h4.fr hf this, hf.cell h5 this⟩
theorem RunesAt.kt {w w' : World} {v : Value} {rs : List Nat} {B : Nat} (h : RunesAt w v rs) (hf : Fr (KT w B) w w') : RunesAt w' v rs :=
  h.fr hf (fun k cs t hk ht => blk_kt hk (by rcases ht with rfl | rfl <;> decide))
theorem RunesAt.get {w : World} {v : Value} {rs : List Nat} (h : RunesAt w v rs) {i r : Nat} (hr : rs[i]? = some r) : ∃ b o c, v = .slice (some ⟨b, o, none⟩) rs.length c ∧ w.cell? ⟨b, o + i, none⟩ = some (.int .i32 (r : Int)) := by
  obtain ⟨A, c, h1, h2⟩ := h
  obtain ⟨b, o, cs, t, rfl, -, h4, h5⟩ := h2 i r hr
  exact ⟨b, o, c, h1, h5⟩

/-- Pairs, one behind the other. -/
def flat (l : List (Nat × Nat)) : List Nat := l.flatMap fun q => [q.1, q.2]
theorem flat_len (l : List (Nat × Nat)) : (flat l).length = 2 * l.length := by
  induction l with
  | nil => rfl
  | cons a l ih => simp only [flat, List.flatMap_cons, List.length_append, List.length_cons, List.length_nil] at *; omega
theorem flat_get {l : List (Nat × Nat)} {k : Nat} {q : Nat × Nat} (h : l[k]? = some q) : (flat l)[2 * k]? = some q.1 ∧ (flat l)[2 * k + 1]? = some q.2 := by
  induction l generalizing k with
  | nil => simp at h
  | cons a l ih =>
    cases k with
    | zero => simp at h; subst h; exact ⟨rfl, rfl⟩
    | succ k =>
      have := ih (k := k) (by simpa using h)
      simp only [flat, List.flatMap_cons] at this ⊢
      rw [show 2 * (k + 1) = 2 * k + 2 by omega]
      exact this

def pairC (q : Nat × Nat) : Nat → List Ins := rangeC q.1 q.2
/-- The instructions of a class. -/
def classC (l : List (Nat × Nat)) : Nat → List Ins := altc (l.map pairC)

theorem rangeC_len {a b : Nat} (h : okRange a b) (o : Nat) : (rangeC a b o).length ≤ 112 := by
  have h1 := (parts_len h).2
  have h2 := rest_le a b
  have h3 := (parts_len h).1
  obtain ⟨L, q, hL⟩ : ∃ L q, parts a b = L ++ [q] := by
    rcases List.eq_nil_or_concat (parts a b) with e | ⟨L, q, e⟩
    · rw [e] at h3; simp at h3
    · exact ⟨L, q, by rw [e, List.concat_eq_append]⟩
  unfold rangeC
  rw [hL, List.map_append, List.map_cons, List.map_nil, altc_snoc, List.length_append]
  have h4 := pre_len_le 4 o (L.map partC) (o + (pre o (L.map partC) 0).length + (partC q (o + (pre o (L.map partC) 0).length)).length) (by
    intro c hc o
    obtain ⟨q, -, rfl⟩ := List.mem_map.1 hc
    simp only [partC, rngs, List.length_map, List.length_zip]
    have := enc_len_le q.1
    omega)
  have h5 : (partC q (o + (pre o (L.map partC) 0).length)).length ≤ 4 := by
    simp only [partC, rngs, List.length_map, List.length_zip]
    have := enc_len_le q.1
    omega
  rw [hL, List.length_append] at h1
  simp only [List.length_cons, List.length_nil] at h1
  rw [List.length_map] at h4
  omega

set_option maxRecDepth 100000 in
set_option maxHeartbeats 8000000 in
theorem cls_calls {w : World} {B cb nb : Nat} {p : List Ins} {l : List (Nat × Nat)} {rv : Value} {ns : List Value} (h : Cp w B cb p) (hl : l.length ≤ 1000) (hl1 : 1 ≤ l.length) (hok : ∀ q, q ∈ l → okRange q.1 q.2) (hB : B ≤ w.heap.size) (hp : p.length ≤ 300000)
    (hnb : Blk w nb ns 77) (hn4 : ns[4]? = some rv) (hr : RunesAt w rv (flat l)) :
    Calls Tryd.prog 51 #[.pointer (some ⟨cb, 0, none⟩), .pointer (some ⟨nb, 0, none⟩)] w fun e w' => e = .returned .nilIface ∧ Cp w' B cb (p ++ classC l p.length) ∧ Fr (KT w B) w w' := by
  obtain ⟨m, hm⟩ : ∃ m, l.length = m + 1 := ⟨l.length - 1, by omega⟩
  obtain ⟨N, hN⟩ : ∃ N, Hid (N = (flat l).length) := ⟨_, Lib.hid rfl⟩
  have hN2 : N = 2 * (m + 1) := by rw [hN.out, flat_len, hm]
  obtain ⟨rA, rc, rfl, -⟩ := id hr
  rw [← hN.out] at hr hn4
  have y4 := hnb.cell 4 hn4
  obtain ⟨M, hM⟩ : ∃ M, M + 2 = N ∧ M = 2 * m := ⟨2 * m, by omega, rfl⟩
  have hmk : ∀ X : World, (Instr.makeSlice 113 (.int .i64 0) (.int .i64 ((N : Int) - 2))).run Tryd.prog X = .ok (.slice (some ⟨X.heap.size, 0, none⟩) 0 M) (X.alloc (.cells (u64s (List.replicate M 0)).toArray 46)) := fun X => by
    have := run_mk_u64 0 M (by omega) (by omega) .i64 .i64 X
    rw [show ((N : Int) - 2) = (M : Int) by omega]
    exact this
  have hjo : (w.alloc (.cells (u64s (List.replicate M 0)).toArray 46)).ownsRow w.heap.size 46 1 (.slice (some ⟨w.heap.size, 0, none⟩) 0 M) 0 [] := by
    have := own_of_blk (base := w.heap.size) (n := 0) (c := M) (size := 1) (Blk.new w (u64s (List.replicate M 0)) 46) (Nat.le_refl _) (Nat.zero_le _) (by simp only [maxLen]; omega) (by simp [u64s])
    simpa using this
  have hFa : Fr (KT w B) w (w.alloc (.cells (u64s (List.replicate M 0)).toArray 46)) := kt_drop ((Fr.refl _ w).alloc _)
  have hca := h.drop ((Fr.refl (fun _ => False) w).alloc (.cells (u64s (List.replicate M 0)).toArray 46))
  generalize hC : (u64s (List.replicate M 0)).toArray = C at *
  obtain ⟨bl, hbl⟩ : ∃ bl, Hid (bl = l.map pairC) := ⟨_, Lib.hid rfl⟩
  have hbll : bl.length = m + 1 := by rw [hbl.out]; simpa using hm
  have hblc : ∀ c, c ∈ bl → ∀ o, (c o).length ≤ 112 := by
    intro c hc o
    rw [hbl.out] at hc
    obtain ⟨q, hq, rfl⟩ := List.mem_map.1 hc
    exact rangeC_len (hok q hq) o
  have hpl : ∀ k, k ≤ m → (p ++ pre p.length (bl.take k) 0).length ≤ 420000 := fun k hk => by
    have := pre_len_le 112 p.length (bl.take k) 0 (fun c hc => hblc c (List.mem_of_mem_take hc))
    rw [List.length_append]
    have h2 : (bl.take k).length ≤ k := by rw [List.length_take]; omega
    omega
  have e0 : ((N : Int) == 0) = false := by rw [beq_eq_false_iff_ne]; omega
  have e00 : ¬ ((N : Int) = 0) := by omega
  have hN3 : 2 ≤ N ∧ N ≤ 2002 := by omega
  obtain ⟨hN4, hN5⟩ := hN3
  have HB := Lib.hid (And.intro hC (And.intro hN2 (And.intro hM (And.intro hnb (And.intro hn4 (And.intro hr h))))))
  clear hC hN2 hM hnb hn4 hr h
  go_enter Tryd.func51, Tryd.ntmps51
  go_wp2_with fail
  clear y4 hmk
  go_loopg [5, 6] (m + 1) (fun g jm i wr => ∃ k t : Nat, k ≤ m ∧ g = m - k + 1 ∧ i = .int .i64 (t : Int) ∧ Hid (t = 2 * k) ∧ Cp wr B cb (p ++ pre p.length (bl.take k) 0) ∧ wr.ownsRow w.heap.size 46 1 jm k (u64s (jps p.length (bl.take k))) ∧ Fr (KT w B) w wr)
  case atStart => exact ⟨0, 0, by omega, by omega, rfl, Lib.hid rfl, by simpa [pre] using hca, by simpa [jps, u64s] using hjo, hFa⟩
  case round =>
    clear hca hjo hFa
    obtain ⟨k, t, hk, rfl, rfl, ht, hcm, hjo, hF⟩ := hrel
    have hB1 : B ≤ wr.heap.size := Nat.le_trans hB hF.size
    have hPl := hpl k hk
    have y4 : wr.cell? ⟨nb, 4, none⟩ = some (.slice rA N rc) := (HB.out.2.2.2.1.fr hF (blk_kt HB.out.2.2.2.1 (by decide))).cell 4 HB.out.2.2.2.2.1
    by_cases hlt : k < m
    · obtain ⟨hC, hN2, hM, hnb, hn4, hr, h⟩ := HB.out
      have ht' := ht.out
      have e1 : (t : Int) < (N : Int) - 2 := by omega
      have e3 : (t : Int) + 1 < (N : Int) := by omega
      have e4 : (t : Int) < (N : Int) := by omega
      have e5 : t ≤ 3000 := by omega
      obtain ⟨q, hq⟩ : ∃ q, l[k]? = some q := ⟨_, List.getElem?_eq_getElem (by omega)⟩
      obtain ⟨f0, f1⟩ := flat_get hq
      rw [← ht'] at f0 f1
      obtain ⟨b, o, c, e6, r0⟩ := (hr.kt hF).get f0
      obtain ⟨b', o', c', e7, r1⟩ := (hr.kt hF).get f1
      simp at e6 e7
      obtain ⟨rfl, -, rfl⟩ := e6
      simp at e7
      obtain ⟨⟨rfl, rfl⟩, -⟩ := e7
      have hokq := hok q (List.mem_of_getElem? hq)
      have hbk : bl[k]? = some (pairC q) := by rw [hbl.out, List.getElem?_map, hq]; rfl
      have htk := Lib.hid (show bl.take (k + 1) = bl.take k ++ [pairC q] from take_snoc_getElem? hbk)
      generalize hP0 : p ++ pre p.length (bl.take k) 0 = P at *
      have hP := Lib.hid hP0
      clear hP0 hC hN2 hM hnb hn4 hr h ht' hq f0 f1 hbk
      obtain ⟨n0, hn0⟩ : ∃ n0, Hid (n0 = P.length) := ⟨_, Lib.hid rfl⟩
      have hsp := cp_split hcm hB1 (by omega)
      rw [← hn0.out] at hsp
      go_wp2_with fail
      refine hsp.mono ?_
      rintro e w2 ⟨rfl, hcm2, hF2⟩
      clear hsp
      have htp := cp_top hcm2 (by simp; omega)
      obtain ⟨n1, hn1⟩ : ∃ n1, Hid (n1 = (P ++ [Ins.split 0 0]).length) := ⟨_, Lib.hid rfl⟩
      rw [← hn1.out] at htp
      go_wp2_with fail
      refine htp.mono ?_
      rintro e w2' ⟨rfl, rfl⟩
      clear htp
      have hB2 : B ≤ w2.heap.size := Nat.le_trans hB1 hF2.size
      have hsc := rcls_calls hcm2 hokq hB2 (by simp; omega)
      have hjo2 := own_kt46 hjo hF2
      clear hjo hcm2
      go_wp2_with fail
      refine hsc.mono ?_
      rintro e w3 ⟨rfl, hcm3, hF3⟩
      clear hsc
      have hB3 : B ≤ w3.heap.size := Nat.le_trans hB2 hF3.size
      have hjo3 := own_kt46 hjo2 hF3
      obtain ⟨D, hD⟩ : ∃ D, Hid (D = rangeC q.1 q.2 (P.length + 1)) := ⟨_, Lib.hid rfl⟩
      have hDl : D.length ≤ 112 := by rw [hD.out]; exact rangeC_len hokq _
      have hl1 : (P ++ [Ins.split 0 0]).length = P.length + 1 := by simp
      rw [hl1, ← hD.out] at hcm3
      have hln : (P ++ [Ins.split 0 0] ++ D).length ≤ 500000 := by simp only [List.length_append, List.length_cons, List.length_nil]; omega
      have hjc := cp_jump hcm3 hB3 (by omega)
      obtain ⟨n3', hn3⟩ : ∃ n, Hid (n = (P ++ [Ins.split 0 0] ++ D).length) := ⟨_, Lib.hid rfl⟩
      rw [← hn3.out] at hjc hln
      clear hcm3 hjo2 hl1
      go_wp2_with fail
      refine hjc.mono ?_
      rintro e w4 ⟨rfl, hcm4, hF4⟩
      clear hjc
      have hjo4 := own_kt46 hjo3 hF4
      have hF14 := kt_trans (kt_trans hF2 hF3) hF4
      have hWl : w.heap.size ≤ w4.heap.size := Nat.le_trans hF.size hF14.size
      have HC := Lib.hid (And.intro hcm4 (And.intro hF14 hF))
      clear hcm4 hF14 hF hjo3 hF2 hF3 hF4 r0 r1
      go_wp2_with (at_builtin; ((refine app1b w4 w4.heap.size rfl rfl _ _ 113 rfl w.heap.size 46 (.int .u64 0) 1 8 Tryd.underlying113 (by kernel_rfl) rfl (by decide) u5 k _ [.int .u64 (n3' : Int)] rfl rfl hjo4 rfl (by simp [Value.oneCell']) (by omega) (by decide) hWl ?_); intro jm' w5 ho5 hf5 hn5; obtain ⟨gj, cj, rfl⟩ := own_slc ho5))
      obtain ⟨hcm4, hF14, hF⟩ := HC.out
      have hcm5 := hcm4.row hjo4 hB hf5
      have htp := cp_top hcm5 (by rw [List.length_append, ← hn3.out]; simp only [List.length_cons, List.length_nil]; omega)
      obtain ⟨n5, hn5'⟩ : ∃ n, Hid (n = (P ++ [Ins.split 0 0] ++ D ++ [Ins.jmp 0]).length) := ⟨_, Lib.hid rfl⟩
      rw [← hn5'.out] at htp
      have hi : (P ++ [Ins.split 0 0] ++ D ++ [Ins.jmp 0])[n0]? = some (.split 0 0) := by
        rw [hn0.out]; simp
      have hss := cp_setsplit hcm5 hi n1 n5
      have hFW5 : Fr (KT w B) w w5 := kt_row (kt_trans hF hF14) hjo4 (Nat.le_refl _) hf5
      clear hcm4 hF14 hF hcm5 HC hjo4 hf5 hn5 hi
      go_wp2_with fail
      refine htp.mono ?_
      rintro e w5' ⟨rfl, rfl⟩
      clear htp
      go_wp2_with fail
      refine hss.mono ?_
      rintro e w6 ⟨rfl, hcm6, hF6⟩
      clear hss
      go_wp2_with fail
      go_roundg (m - (k + 1) + 1)
      case measure => omega
      case rel =>
        refine ⟨k + 1, t + 2, by omega, rfl, by simp, Lib.hid (by have := ht.out; omega), ?_, ?_, kt_trans hFW5 hF6⟩
        · rw [htk.out, ← pre_step p (bl.take k) (pairC q) hP.out (D := D) hD.out.symm]
          rw [hn0.out, hn1.out, hn5'.out] at hcm6
          exact hcm6
        · rw [htk.out, jps_step p (bl.take k) (pairC q) hP.out (D := D) hD.out.symm]
          have := own_kt46 ho5 hF6
          rw [hn3.out] at this
          simpa [u64s] using this
    · obtain rfl : k = m := by omega
      obtain ⟨hC, hN2, hM, hnb, hn4, hr, h⟩ := HB.out
      have ht' := ht.out
      have e1 : ¬ ((t : Int) < (N : Int) - 2) := by omega
      have e3 : ((N : Int) - 2) < (N : Int) := by omega
      have e30 : (0 : Int) ≤ ((N : Int) - 2) := by omega
      have e31 : ((N : Int) - 1) < (N : Int) := by omega
      have e35 : (2 : Int) ≤ (N : Int) := by omega
      have e36 : (1 : Int) ≤ (N : Int) := by omega
      have e32 : (0 : Int) ≤ ((N : Int) - 1) := by omega
      have e33 : IntKind.i64.wrap ((N : Int) - 2) = (N : Int) - 2 := IntWalk.i64_in _ (by omega)
      have e34 : IntKind.i64.wrap ((N : Int) - 1) = (N : Int) - 1 := IntWalk.i64_in _ (by omega)
      obtain ⟨q, hq⟩ : ∃ q, l[k]? = some q := ⟨_, List.getElem?_eq_getElem (by omega)⟩
      obtain ⟨f0, f1⟩ := flat_get hq
      obtain ⟨b, o, c, e6, r0⟩ := (hr.kt hF).get f0
      obtain ⟨b', o', c', e7, r1⟩ := (hr.kt hF).get f1
      simp at e6 e7
      obtain ⟨rfl, -, rfl⟩ := e6
      simp at e7
      obtain ⟨⟨rfl, rfl⟩, -⟩ := e7
      have r0' : wr.cell? ⟨b, o + (N - 2), none⟩ = some (.int .i32 (q.1 : Int)) := by rw [show N - 2 = 2 * k by omega]; exact r0
      have r1' : wr.cell? ⟨b, o + (N - 1), none⟩ = some (.int .i32 (q.2 : Int)) := by rw [show N - 1 = 2 * k + 1 by omega]; exact r1
      have hokq := hok q (List.mem_of_getElem? hq)
      have hbk : bl[k]? = some (pairC q) := by rw [hbl.out, List.getElem?_map, hq]; rfl
      have htk : Hid (bl = bl.take k ++ [pairC q]) := Lib.hid (by
        rw [← take_snoc_getElem? hbk, List.take_of_length_le (by omega)])
      generalize hP0 : p ++ pre p.length (bl.take k) 0 = P at *
      have hP := Lib.hid hP0
      have hjd := own_sl' hjo
      obtain ⟨jA, jc, rfl⟩ := hjd
      clear hP0 hC hN2 hM hnb hn4 hr h ht' hq f0 f1 hbk r0 r1
      go_wp2_with fail
      go_quiet (fail)
      go_wp2_with fail
      go_quiet (fail)
      have hsc : ∀ n1, Calls Tryd.prog 75 #[.pointer (some ⟨cb, 0, none⟩), .int .i32 (q.1 : Int), .int .i32 (q.2 : Int)] (wr.drewN n1) _ := fun n1 => rcls_calls (hcm.drop ((Fr.refl (fun _ => False) wr).drewN n1)) hokq hB1 (by omega)
      have HJ := Lib.hid (And.intro hF hjo)
      clear hcm hF hjo
      go_wp2_with fail
      refine (hsc _).mono ?_
      rintro e w3 ⟨rfl, hcm3, hF3⟩
      clear hsc
      obtain ⟨hF, hjo⟩ := HJ.out
      have hFd := kt_trans (kt_drop (B := B) ((Fr.refl (fun _ => False) wr).drewN _)) hF3
      have hF13 := kt_trans hF hFd
      have hjo3 := own_kt46 hjo hFd
      obtain ⟨D, hD⟩ : ∃ D, Hid (D = rangeC q.1 q.2 P.length) := ⟨_, Lib.hid rfl⟩
      have hDl : D.length ≤ 112 := by rw [hD.out]; exact rangeC_len hokq _
      rw [← hD.out] at hcm3
      have htp := cp_top hcm3 (by rw [List.length_append]; omega)
      obtain ⟨en, hen⟩ : ∃ n, Hid (n = (P ++ D).length) := ⟨_, Lib.hid rfl⟩
      rw [← hen.out] at htp
      obtain ⟨js, hjs⟩ : ∃ js, Hid (js = jps p.length (bl.take k)) := ⟨_, Lib.hid rfl⟩
      rw [← hjs.out] at hjo3
      have hjl : js.length = k := by rw [hjs.out, jps_len, List.length_take]; omega
      clear hF hjo hF3 hFd HJ r0' r1' y4
      go_wp2_with fail
      refine htp.mono ?_
      rintro e w2' ⟨rfl, rfl⟩
      clear htp
      go_wp2_with fail
      go_loopg [115] (k + 1) (fun g i wr2 => ∃ j : Nat, j ≤ k ∧ g = k - j + 1 ∧ i = .int .i64 (j : Int) ∧ Cp wr2 B cb (setJs (P ++ D) (js.take j) en) ∧ Fr (KT w B) w wr2 ∧ wr2.ownsRow w.heap.size 46 1 (.slice jA k jc) k (u64s js))
      case atStart => exact ⟨0, by omega, by omega, rfl, by simpa [setJs] using hcm3, hF13, hjo3⟩
      case round =>
        clear hcm3 hF13 hjo3
        obtain ⟨j, hj, rfl, rfl, hcm, hF, hjo⟩ := hrel
        by_cases hjk : j < k
        · have e2 : (j : Int) < (k : Int) := by omega
          obtain ⟨t, ht⟩ : ∃ t, js[j]? = some t := ⟨_, List.getElem?_eq_getElem (by omega)⟩
          obtain ⟨g5, c5, he5, -, -, hrj, -⟩ := own_cell hjo (j := j) (u := .int .u64 (t : Int)) (by simp [u64s, ht])
          simp at he5
          obtain ⟨rfl, rfl⟩ := he5
          obtain ⟨a0, ha0⟩ : ∃ a0, (setJs (P ++ D) (js.take j) en)[t]? = some (.jmp a0) := by
            refine setJs_jmp (a := 0) ?_
            rw [← hP.out]
            exact pre_jmp p (bl.take k) 0 _ t (by rw [← hjs.out]; exact List.mem_of_getElem? ht)
          have hsj := cp_setjump hcm ha0 en
          have HF := Lib.hid (And.intro hF (And.intro hjo ht))
          clear hcm hF hjo ht ha0
          go_wp2_with fail
          refine hsj.mono ?_
          rintro e w4 ⟨rfl, hcm4, hF4⟩
          clear hsj
          go_wp2_with fail
          go_roundg (k - (j + 1) + 1)
          case measure => omega
          case rel =>
            obtain ⟨hF, hjo, ht⟩ := HF.out
            refine ⟨j + 1, by omega, rfl, by simp, ?_, kt_trans hF hF4, own_kt46 hjo hF4⟩
            rw [take_snoc_getElem? ht, setJs_snoc]
            exact hcm4
        · obtain rfl : j = k := by omega
          have e2 : ¬ ((j : Int) < (j : Int)) := by omega
          go_wp2_with fail
          go_ret
          refine ⟨rfl, ?_, hF⟩
          rw [List.take_of_length_le (by omega), hjs.out, hen.out, alt_step p (bl.take j) (pairC q) hP.out (D := D) hD.out.symm, ← htk.out, hbl.out] at hcm
          exact hcm
end Go.Proofs.YtjeklnbfpehbeaaDoor

/- Expressions as a plain tree, and the instructions they become. No condition. -/
namespace Go.Proofs.YtjeklnbfpehbeaaDoor

/-- An expression. -/
inductive RE where
  | emp
  | lit (rs : List Nat)
  | cls (l : List (Nat × Nat))
  | any
  | anyNl
  | cat (l : List RE)
  | alt (l : List RE)
  | star (r : RE)
  | plus (r : RE)
  | quest (r : RE)
  | rep (mn : Nat) (mx : Option Nat) (r : RE)
  | cap (r : RE)

/-- By the tree. -/
theorem RE.ind {P : RE → Prop} (h1 : P .emp) (h2 : ∀ rs, P (.lit rs)) (h3 : ∀ l, P (.cls l)) (h4 : P .any) (h5 : P .anyNl) (h6 : ∀ l, (∀ r, r ∈ l → P r) → P (.cat l)) (h7 : ∀ l, (∀ r, r ∈ l → P r) → P (.alt l))
  (h8 : ∀ r, P r → P (.star r)) (h9 : ∀ r, P r → P (.plus r)) (h10 : ∀ r, P r → P (.quest r)) (h11 : ∀ mn mx r, P r → P (.rep mn mx r)) (h12 : ∀ r, P r → P (.cap r)) : ∀ r, P r :=
  RE.rec (motive_1 := P) (motive_2 := fun l => ∀ r, r ∈ l → P r) h1 h2 h3 h4 h5 h6 h7 h8 h9 h10 h11 h12 (fun r hr => by simp at hr) (fun a l ha hl r hr => by
    rcases List.mem_cons.1 hr with rfl | hr
    · exact ha
    · exact hl r hr)

/-- One behind the other. -/
def seqC : List (Nat → List Ins) → Nat → List Ins
  | [], _ => []
  | c :: cs, o => c o ++ seqC cs (o + (c o).length)
/-- Copies that may be left out, up to the end e. -/
def optC (c : Nat → List Ins) (e : Nat) : Nat → Nat → List Ins
  | 0, _ => []
  | k + 1, o => .split (o + 1) e :: c (o + 1) ++ optC c e k (o + 1 + (c (o + 1)).length)
def starC (c : Nat → List Ins) (o : Nat) : List Ins := .split (o + 1) (o + 1 + (c (o + 1)).length + 1) :: c (o + 1) ++ [.jmp o]
def litC (rs : List Nat) : List Ins := rs.flatMap fun r => rngs ((enc r).zip (enc r))

mutual
/-- The instructions of an expression that begin at a place. -/
def code : RE → Nat → List Ins
  | .emp, _ => []
  | .lit rs, _ => litC rs
  | .cls l, o => classC l o
  | .any, o => classC [(0, 1114111)] o
  | .anyNl, o => classC [(0, 9), (11, 1114111)] o
  | .cat l, o => seqC (codes l) o
  | .alt l, o => altc (codes l) o
  | .star r, o => starC (code r) o
  | .plus r, o => code r o ++ [.split o (o + (code r o).length + 1)]
  | .quest r, o => .split (o + 1) (o + 1 + (code r (o + 1)).length) :: code r (o + 1)
  | .rep mn none r, o => seqC (List.replicate mn (code r)) o ++ starC (code r) (o + (seqC (List.replicate mn (code r)) o).length)
  | .rep mn (some mx) r, o => seqC (List.replicate mn (code r)) o ++ optC (code r) (o + (seqC (List.replicate mn (code r)) o).length + (optC (code r) 0 (mx - mn) (o + (seqC (List.replicate mn (code r)) o).length)).length) (mx - mn) (o + (seqC (List.replicate mn (code r)) o).length)
  | .cap r, o => code r o
def codes : List RE → List (Nat → List Ins)
  | [] => []
  | r :: l => code r :: codes l
end
theorem codes_eq (l : List RE) : codes l = l.map code := by
  induction l with
  | nil => simp [codes]
  | cons r l ih => simp [codes, ih]

/-- The length does not hang on the place. -/
def Fix (c : Nat → List Ins) : Prop := ∀ o o', (c o).length = (c o').length
theorem seqC_fix {cs : List (Nat → List Ins)} (h : ∀ c, c ∈ cs → Fix c) : Fix (seqC cs) := by
  induction cs with
  | nil => intro o o'; rfl
  | cons c cs ih =>
    intro o o'
    simp only [seqC, List.length_append]
    rw [ih (fun c hc => h c (by simp [hc])) (o + (c o).length) (o' + (c o').length), h c (by simp) o o']
theorem optC_fix {c : Nat → List Ins} (h : Fix c) (k : Nat) : ∀ e e' o o', (optC c e k o).length = (optC c e' k o').length := by
  induction k with
  | zero => intro e e' o o'; rfl
  | succ k ih =>
    intro e e' o o'
    simp only [optC, List.length_append, List.length_cons]
    rw [h (o + 1) (o' + 1), ih e e' _ (o' + 1 + (c (o' + 1)).length)]
theorem altE_fix {cs : List (Nat → List Ins)} (h : ∀ c, c ∈ cs → Fix c) : ∀ e e' o o', (altE o cs e).length = (altE o' cs e').length := by
  induction cs with
  | nil => intro e e' o o'; rfl
  | cons c cs ih =>
    intro e e' o o'
    cases cs with
    | nil => exact h c (by simp) o o'
    | cons d cs =>
      simp only [altE, List.length_append, List.length_cons]
      rw [h c (by simp) (o + 1) (o' + 1), ih (fun c hc => h c (by simp [hc])) e e' _ (o' + (c (o' + 1)).length + 2)]
theorem altc_fix {cs : List (Nat → List Ins)} (h : ∀ c, c ∈ cs → Fix c) : Fix (altc cs) := fun o o' => altE_fix h _ _ o o'
theorem rangeC_fix (a b : Nat) : Fix (rangeC a b) := altc_fix (fun c hc => by
  obtain ⟨q, -, rfl⟩ := List.mem_map.1 hc
  intro o o'; rfl)
theorem classC_fix (l : List (Nat × Nat)) : Fix (classC l) := altc_fix (fun c hc => by
  obtain ⟨q, -, rfl⟩ := List.mem_map.1 hc
  exact rangeC_fix _ _)
theorem starC_fix {c : Nat → List Ins} (h : Fix c) : Fix (starC c) := fun o o' => by
  simp only [starC, List.length_append, List.length_cons]
  rw [h (o + 1) (o' + 1)]
theorem code_fix (r : RE) : Fix (code r) := by
  refine RE.ind (P := fun r => Fix (code r)) ?_ ?_ ?_ ?_ ?_ ?_ ?_ ?_ ?_ ?_ ?_ ?_ r
  · intro o o'; simp [code]
  · intro rs o o'; simp [code]
  · intro l o o'; simp only [code]; exact classC_fix l o o'
  · intro o o'; simp only [code]; exact classC_fix _ o o'
  · intro o o'; simp only [code]; exact classC_fix _ o o'
  · intro l ih o o'
    simp only [code, codes_eq]
    exact seqC_fix (fun c hc => by obtain ⟨r, hr, rfl⟩ := List.mem_map.1 hc; exact ih r hr) o o'
  · intro l ih o o'
    simp only [code, codes_eq]
    exact altc_fix (fun c hc => by obtain ⟨r, hr, rfl⟩ := List.mem_map.1 hc; exact ih r hr) o o'
  · intro r ih o o'; simp only [code]; exact starC_fix ih o o'
  · intro r ih o o'; simp only [code, List.length_append, List.length_cons, List.length_nil]; rw [ih o o']
  · intro r ih o o'; simp only [code, List.length_cons]; rw [ih (o + 1) (o' + 1)]
  · intro mn mx r ih o o'
    have hs : Fix (seqC (List.replicate mn (code r))) := seqC_fix (fun c hc => by rw [List.eq_of_mem_replicate hc]; exact ih)
    cases mx with
    | none => simp only [code, List.length_append]; rw [hs o o', starC_fix ih _ (o' + (seqC (List.replicate mn (code r)) o').length)]
    | some mx => simp only [code, List.length_append]; rw [hs o o', optC_fix ih]
  · intro r ih o o'; simp only [code]; exact ih o o'

/-- How many instructions. -/
def clen (r : RE) : Nat := (code r 0).length
theorem clen_eq (r : RE) (o : Nat) : (code r o).length = clen r := code_fix r o 0
end Go.Proofs.YtjeklnbfpehbeaaDoor

/- Expressions in memory, as Go's package has them. No condition. -/
namespace Go.Proofs.YtjeklnbfpehbeaaDoor
open Go.RowKit

/-- A node's own cells. -/
def Head (w : World) (nb op : Nat) (K : Value → Value → Int → Int → Prop) : Prop :=
  ∃ (sv rv : Value) (x0 x1 mn mx : Int) (cp nm : Value), Blk w nb [.int .u8 (op : Int), .int .u16 0, sv, .pointer none, rv, .int .i32 x0, .int .i32 x1, .int .i64 mn, .int .i64 mx, cp, nm] 77 ∧ (∃ A n c, rv = .slice A n c) ∧ K sv rv mn mx

/-- The one part of a node. -/
def One (w : World) (sv : Value) (K : Nat → Prop) : Prop :=
  ∃ b o c cs nb, sv = .slice (some ⟨b, o, none⟩) 1 c ∧ Blk w b cs 44 ∧ w.cell? ⟨b, o, none⟩ = some (.pointer (some ⟨nb, 0, none⟩)) ∧ K nb

def maxOf : Option Nat → Int
  | none => -1
  | some n => (n : Int)

mutual
/-- Block nb is the expression's node. -/
def NodeAt (w : World) : RE → Nat → Prop
  | .emp, nb => Head w nb 2 fun _ _ _ _ => True
  | .lit rs, nb => Head w nb 3 fun _ rv _ _ => RunesAt w rv rs
  | .cls l, nb => Head w nb 4 fun _ rv _ _ => RunesAt w rv (flat l)
  | .any, nb => Head w nb 6 fun _ _ _ _ => True
  | .anyNl, nb => Head w nb 5 fun _ _ _ _ => True
  | .cat l, nb => Head w nb 18 fun sv _ _ _ => ∃ A c, sv = .slice A l.length c ∧ SubsAt w l A 0
  | .alt l, nb => Head w nb 19 fun sv _ _ _ => ∃ A c, sv = .slice A l.length c ∧ SubsAt w l A 0
  | .star r, nb => Head w nb 14 fun sv _ _ _ => One w sv fun k => NodeAt w r k
  | .plus r, nb => Head w nb 15 fun sv _ _ _ => One w sv fun k => NodeAt w r k
  | .quest r, nb => Head w nb 16 fun sv _ _ _ => One w sv fun k => NodeAt w r k
  | .rep mn mx r, nb => Head w nb 17 fun sv _ a b => a = (mn : Int) ∧ b = maxOf mx ∧ One w sv fun k => NodeAt w r k
  | .cap r, nb => Head w nb 13 fun sv _ _ _ => One w sv fun k => NodeAt w r k
def SubsAt (w : World) : List RE → Option Addr → Nat → Prop
  | [], _, _ => True
  | r :: l, A, i => (∃ b o cs nb, A = some ⟨b, o, none⟩ ∧ Blk w b cs 44 ∧ w.cell? ⟨b, o + i, none⟩ = some (.pointer (some ⟨nb, 0, none⟩)) ∧ NodeAt w r nb) ∧ SubsAt w l A (i + 1)
end

mutual
/-- What is asked of an expression. -/
def WfR : RE → Prop
  | .emp => True
  | .lit rs => rs.length ≤ 1000 ∧ ∀ r, r ∈ rs → okRune r
  | .cls l => 1 ≤ l.length ∧ l.length ≤ 1000 ∧ ∀ q, q ∈ l → okRange q.1 q.2
  | .any => True
  | .anyNl => True
  | .cat l => l.length ≤ 1000 ∧ WfL l
  | .alt l => 1 ≤ l.length ∧ l.length ≤ 1000 ∧ WfL l
  | .star r => WfR r
  | .plus r => WfR r
  | .quest r => WfR r
  | .rep mn mx r => mn ≤ 1000 ∧ (∀ m, mx = some m → m ≤ 1000 ∧ mn ≤ m) ∧ WfR r
  | .cap r => WfR r
def WfL : List RE → Prop
  | [] => True
  | r :: l => WfR r ∧ WfL l
end
theorem WfL_mem {l : List RE} (h : WfL l) : ∀ r, r ∈ l → WfR r := by
  induction l with
  | nil => intro r hr; simp at hr
  | cons a l ih =>
    intro r hr
    simp only [WfL] at h
    rcases List.mem_cons.1 hr with rfl | hr
    · exact h.1
    · exact ih h.2 r hr

theorem Head.fr {w w' : World} {nb op : Nat} {K K' : Value → Value → Int → Int → Prop} {F : Nat → Prop} (h : Head w nb op K) (hf : Fr F w w') (hn : ∀ k cs, Blk w k cs 77 → ¬ F k) (hK : ∀ sv rv mn mx, K sv rv mn mx → K' sv rv mn mx) : Head w' nb op K' := by
  obtain ⟨sv, rv, x0, x1, mn, mx, cp, nm, h1, h3, h2⟩ := h
  exact ⟨sv, rv, x0, x1, mn, mx, cp, nm, h1.fr hf (hn _ _ h1), h3, hK _ _ _ _ h2⟩
theorem One.fr {w w' : World} {sv : Value} {K K' : Nat → Prop} {F : Nat → Prop} (h : One w sv K) (hf : Fr F w w') (hn : ∀ k cs, Blk w k cs 44 → ¬ F k) (hK : ∀ k, K k → K' k) : One w' sv K' := by
  obtain ⟨b, o, c, cs, nb, h1, h2, h3, h4⟩ := h
  exact ⟨b, o, c, cs, nb, h1, h2.fr hf (hn _ _ h2), hf.cell h3 (hn _ _ h2), hK _ h4⟩
theorem SubsAt.fr {w w' : World} {F : Nat → Prop} (hf : Fr F w w') (hn : ∀ k cs, Blk w k cs 44 → ¬ F k) : ∀ (l : List RE) (A : Option Addr) (i : Nat), (∀ r, r ∈ l → ∀ nb, NodeAt w r nb → NodeAt w' r nb) → SubsAt w l A i → SubsAt w' l A i
  | [], _, _, _, _ => by simp [SubsAt]
  | r :: l, A, i, ih, h => by
    simp only [SubsAt] at h ⊢
    obtain ⟨⟨b, o, cs, nb, h1, h2, h3, h4⟩, h5⟩ := h
    exact ⟨⟨b, o, cs, nb, h1, h2.fr hf (hn _ _ h2), hf.cell h3 (hn _ _ h2), ih r (by simp) nb h4⟩, SubsAt.fr hf hn l A (i + 1) (fun r hr => ih r (by simp [hr])) h5⟩

/-- What is written elsewhere leaves a node. -/
theorem NodeAt.fr {w w' : World} {F : Nat → Prop} (hf : Fr F w w') (hn : ∀ k cs t, Blk w k cs t → t = 77 ∨ t = 44 ∨ t = 21 → ¬ F k) (r : RE) : ∀ nb, NodeAt w r nb → NodeAt w' r nb := by
  have h77 : ∀ k cs, Blk w k cs 77 → ¬ F k := fun k cs h => hn k cs 77 h (.inl rfl)
  have h44 : ∀ k cs, Blk w k cs 44 → ¬ F k := fun k cs h => hn k cs 44 h (.inr (.inl rfl))
  have h21 : ∀ k cs t, Blk w k cs t → t = 21 ∨ t = 77 → ¬ F k := fun k cs t h ht => hn k cs t h (ht.elim (fun e => .inr (.inr e)) .inl)
  refine RE.ind (P := fun r => ∀ nb, NodeAt w r nb → NodeAt w' r nb) ?_ ?_ ?_ ?_ ?_ ?_ ?_ ?_ ?_ ?_ ?_ ?_ r
  · intro nb h; simp only [NodeAt] at h ⊢; exact h.fr hf h77 (fun _ _ _ _ _ => trivial)
  · intro rs nb h; simp only [NodeAt] at h ⊢; exact h.fr hf h77 (fun _ _ _ _ h => h.fr hf h21)
  · intro rs nb h; simp only [NodeAt] at h ⊢; exact h.fr hf h77 (fun _ _ _ _ h => h.fr hf h21)
  · intro nb h; simp only [NodeAt] at h ⊢; exact h.fr hf h77 (fun _ _ _ _ _ => trivial)
  · intro nb h; simp only [NodeAt] at h ⊢; exact h.fr hf h77 (fun _ _ _ _ _ => trivial)
  · intro l ih nb h; simp only [NodeAt] at h ⊢; exact h.fr hf h77 (fun _ _ _ _ ⟨A, c, e, h⟩ => ⟨A, c, e, SubsAt.fr hf h44 l A 0 ih h⟩)
  · intro l ih nb h; simp only [NodeAt] at h ⊢; exact h.fr hf h77 (fun _ _ _ _ ⟨A, c, e, h⟩ => ⟨A, c, e, SubsAt.fr hf h44 l A 0 ih h⟩)
  · intro r ih nb h; simp only [NodeAt] at h ⊢; exact h.fr hf h77 (fun _ _ _ _ h => h.fr hf h44 ih)
  · intro r ih nb h; simp only [NodeAt] at h ⊢; exact h.fr hf h77 (fun _ _ _ _ h => h.fr hf h44 ih)
  · intro r ih nb h; simp only [NodeAt] at h ⊢; exact h.fr hf h77 (fun _ _ _ _ h => h.fr hf h44 ih)
  · intro mn mx r ih nb h; simp only [NodeAt] at h ⊢; exact h.fr hf h77 (fun _ _ _ _ h => ⟨h.1, h.2.1, h.2.2.fr hf h44 ih⟩)
  · intro r ih nb h; simp only [NodeAt] at h ⊢; exact h.fr hf h77 (fun _ _ _ _ h => h.fr hf h44 ih)
theorem NodeAt.kt {w w' : World} {B : Nat} (hf : Fr (KT w B) w w') {r : RE} {nb : Nat} (h : NodeAt w r nb) : NodeAt w' r nb :=
  NodeAt.fr hf (fun k cs t hk ht => blk_kt hk (by rcases ht with rfl | rfl | rfl <;> decide)) r nb h
theorem Head.get {w w' : World} {B nb op : Nat} {K : Value → Value → Int → Int → Prop} (h : Head w nb op K) : ∃ sv rv mn mx, K sv rv mn mx ∧ ∃ ns, Blk w nb ns 77 ∧ ns[0]? = some (.int .u8 (op : Int)) ∧ ns[1]? = some (.int .u16 0) ∧ ns[2]? = some sv ∧ ns[4]? = some rv ∧ ns[7]? = some (.int .i64 mn) ∧ ns[8]? = some (.int .i64 mx) := by
  obtain ⟨sv, rv, x0, x1, mn, mx, cp, nm, h1, -, h2⟩ := h
  exact ⟨sv, rv, mn, mx, h2, _, h1, rfl, rfl, rfl, rfl, rfl, rfl⟩
theorem SubsAt.get {w : World} : ∀ (l : List RE) (A : Option Addr) (i j : Nat) (r : RE), SubsAt w l A i → l[j]? = some r → ∃ b o cs nb, A = some ⟨b, o, none⟩ ∧ Blk w b cs 44 ∧ w.cell? ⟨b, o + (i + j), none⟩ = some (.pointer (some ⟨nb, 0, none⟩)) ∧ NodeAt w r nb
  | [], _, _, _, _, _, h => by simp at h
  | a :: l, A, i, 0, r, h, hr => by
    simp only [SubsAt] at h
    simp at hr; subst hr
    exact h.1
  | a :: l, A, i, j + 1, r, h, hr => by
    simp only [SubsAt] at h
    have := SubsAt.get l A (i + 1) j r h.2 (by simpa using hr)
    rw [show i + 1 + j = i + (j + 1) by omega] at this
    exact this

/-- What the compiler does to an expression. -/
def CC (B cb : Nat) (r : RE) : Prop := ∀ (w : World) (p : List Ins) (nb : Nat), Cp w B cb p → NodeAt w r nb → B ≤ w.heap.size → p.length + clen r ≤ 200000 →
  Calls Tryd.prog 38 #[.pointer (some ⟨cb, 0, none⟩), .pointer (some ⟨nb, 0, none⟩)] w fun e w' => e = .returned .nilIface ∧ Cp w' B cb (p ++ code r p.length) ∧ Fr (KT w B) w w'
end Go.Proofs.YtjeklnbfpehbeaaDoor
