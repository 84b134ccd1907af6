/- '(*dfaBuilder).cachedState' of package regexp: the state of a set of places: none, one that is there, or a new one. Condition: at most 20000 states. '(*dfaBuilder).runState' of package regexp: one step of a state by a byte: the state that comes of it is found or made, and written into the row. Condition: at most 20000 states. The walk of '(*dfaBuilder).runState' of package regexp. Condition: at most 20000 states. The stack of package regexp's builder: Push and Pop of numbers. Condition: it stays below 2^40. 'newDfaBuilder' of package regexp: a builder whose only state is the dead one. Condition: the program is a right one. Plain words on the automaton that package regexp builds: what its states are, and what one step more does to them. No condition. The builder's search in memory: the builder, both sets, the stack, what was seen. No condition. -/
import Derived.Test.YtjeklnbfpehbeaaDoorM00
import Derived.Deep.DeepCutAuto
set_option linter.unusedVariables false
/- '(*dfaBuilder).cachedState' of package regexp: the state of a set of places: none, one that is there, or a new one. Condition: at most 20000 states. -/
namespace Go.Proofs.YtjeklnbfpehbeaaDoor
open Go.RowKit Go.Maps

/-- What comes of it: which state, and the states behind it. -/
def COut (S S' : List DSt) (f : List Nat) (m : Bool) (ns : Nat) : Prop :=
  (f = [] ∧ ns = 0 ∧ S' = S) ∨ (f ≠ [] ∧ S' = S ∧ 1 ≤ ns ∧ ∃ s, S[ns]? = some s ∧ s.l = f) ∨
    (f ≠ [] ∧ ns = S.length ∧ (∀ (i : Nat) (s : DSt), 1 ≤ i → S[i]? = some s → s.l ≠ f) ∧ ∃ iv nb, S' = S ++ [⟨f, iv, nb, List.replicate 256 0, m⟩])

/-- What may be written: the builder's blocks, and the slice that is used anew. -/
def CF (bb db mb : Nat) (kv sv r : Value) : Nat → Prop := fun k => k = bb ∨ k = db ∨ k = mb ∨ kv.ownBlock = some k ∨ sv.ownBlock = some k ∨ r.ownBlock = some k

/-- A slice of places that may be used anew: none of the states' own. -/
structure Reuse (w : World) (M : Nat) (S : List DSt) (r : Value) : Prop where
  own : ∃ n xs, w.ownsRow M 46 1 r n xs
  apart : ∀ s, s ∈ S → ∀ k, s.iv.ownBlock = some k → r.ownBlock ≠ some k

theorem sl0 (A : Option Addr) (n c : Nat) (h : n ≤ c) (hA : A = none → n = 0 ∧ c = 0) (W : World) :
    (Instr.slice 113 (.slice A n c) none (some (.int .i64 0)) none).run Tryd.prog W = .ok (.slice A 0 c) W := by
  cases A with
  | none => obtain ⟨rfl, rfl⟩ := hA rfl; kernel_rfl
  | some a => simp [Instr.slice, go_sem]

theorem own_form {w : World} {base n : Nat} {e : TypeId} {v : Value} {xs : List Value} (h : w.ownsRow base e 1 v n xs) : ∃ A c, v = .slice A n c ∧ n ≤ c ∧ (A = none → n = 0 ∧ c = 0) ∧ w.ownsRow base e 1 (.slice A 0 c) 0 [] ∧ c ≤ maxLen := by
  rcases h.2 with ⟨rfl, rfl⟩ | ⟨g, cap, cur, rfl, hb, hg, h1, h2, h3, h4⟩
  · exact ⟨none, 0, rfl, Nat.le_refl _, fun _ => ⟨rfl, rfl⟩, ⟨rfl, .inl ⟨rfl, rfl⟩⟩, Nat.zero_le _⟩
  · exact ⟨_, cap, rfl, h1, (fun e => by cases e), ⟨rfl, .inr ⟨g, cap, cur, rfl, hb, hg, Nat.zero_le _, h2, h3, by simp⟩⟩, h2⟩

/-- Writing the slice that is used anew leaves the builder as it is. -/
theorem DB.reuse_fr {w w' : World} {bb db mb : Nat} {pv : Value} {p : List Ins} {B M : Nat} {kv sv r : Value} {S : List DSt} {D : DataW Unit} (h : DB w bb db mb pv p B M kv sv S D) (hr : Reuse w M S r) (hf : Fr (fun k => r.ownBlock = some k) w w') : DB w' bb db mb pv p B M kv sv S D := by
  obtain ⟨n, xs, ho⟩ := hr.own
  have hBM := h.BM
  refine h.fr hf (fun k hk => Nat.le_trans hBM (own_lt' ho hk).1) (own_ne_blk ho h.hb (by decide)) (own_ne_blk ho h.hd (by decide)) (map_ne_own h.map ho) ?_ ?_ (fun s hs k hk => hr.apart s hs k hk) (fun s hs => own_ne_blk ho (h.next s hs).1 (by decide))
  · intro k hk
    obtain ⟨cs, hc⟩ := buf_blk h.buf hk
    exact own_ne_blk ho hc (by decide)
  · intro k hk hk'
    exact own_ne_own ho h.sts (by decide) hk' hk

/-- The builder behind 'd.keyBuf = instsKey(..)'. -/
theorem DB.newkey {w w2 : World} {bb db mb : Nat} {pv : Value} {p : List Ins} {B M : Nat} {kv sv : Value} {S : List DSt} {D : DataW Unit} {kg kn kc : Nat} {cs : List Nat} (h : DB w bb db mb pv p B M kv sv S D) (hf : Fr (fun k => kv.ownBlock = some k) w w2)
    (hB : Blk w2 kg (u8s cs) 5) (hcl : cs.length = kc) (hkn : kn ≤ kc) (hkc : kc ≤ 17592186044416) (hk : kv.ownBlock = some kg ∨ w.heap.size ≤ kg) :
    DB (w2.setCell ⟨bb, 2, none⟩ (.slice (some ⟨kg, 0, none⟩) kn kc)) bb db mb pv p B M (.slice (some ⟨kg, 0, none⟩) kn kc) sv S D ∧ Blk (w2.setCell ⟨bb, 2, none⟩ (.slice (some ⟨kg, 0, none⟩) kn kc)) kg (u8s cs) 5 ∧
      Fr (fun k => k = bb ∨ kv.ownBlock = some k) w (w2.setCell ⟨bb, 2, none⟩ (.slice (some ⟨kg, 0, none⟩) kn kc)) := by
  have nk : ∀ {k : Nat} {cs' : List Value} {t : TypeId}, Blk w k cs' t → t ≠ 5 → kv.ownBlock ≠ some k := by
    intro k cs' t hk' ht he
    obtain ⟨c5, h5⟩ := buf_blk h.buf he
    exact ht (hk'.inj h5).2
  have nbb : kv.ownBlock ≠ some bb := nk h.hb (by decide)
  have hb2 := h.hb.fr hf nbb
  have nkg : kg ≠ bb := blk_ne hB hb2 (by decide)
  have hlt := h.hb.lt
  have hF : Fr (fun k => k = bb ∨ kv.ownBlock = some k) w (w2.setCell ⟨bb, 2, none⟩ (.slice (some ⟨kg, 0, none⟩) kn kc)) := Fr.setCell (F := fun k => k = bb ∨ kv.ownBlock = some k) (p := ⟨bb, 2, none⟩) (hf.mono (fun _ _ h => Or.inr h)) (fun _ => .inl rfl) _
  refine ⟨?_, hB.set_ne nkg _, hF⟩
  have n5 : ∀ k, sv.ownBlock = some k → ¬ (k = bb ∨ kv.ownBlock = some k) := by
    rintro k hk' (rfl | e)
    · exact own_ne_blk h.sts h.hb (by decide) hk'
    · obtain ⟨c5, h5⟩ := buf_blk h.buf e
      exact own_ne_blk h.sts h5 (by decide) hk'
  have n6 : ∀ s, s ∈ S → ∀ k, s.iv.ownBlock = some k → ¬ (k = bb ∨ kv.ownBlock = some k) := by
    rintro s hs k hk' (rfl | e)
    · exact own_ne_blk (h.row s hs) h.hb (by decide) hk'
    · obtain ⟨c5, h5⟩ := buf_blk h.buf e
      exact own_ne_blk (h.row s hs) h5 (by decide) hk'
  have n7 : ∀ s, s ∈ S → ¬ (s.nb = bb ∨ kv.ownBlock = some s.nb) := by
    rintro s hs (e | e)
    · exact blk_ne (h.next s hs).1 h.hb (by decide) e
    · exact nk (h.next s hs).1 (by decide) e
  have n3 : ¬ (mb = bb ∨ kv.ownBlock = some mb) := by
    rintro (e | e)
    · exact map_ne_blk h.map h.hb e.symm
    · obtain ⟨c5, h5⟩ := buf_blk h.buf e
      exact map_ne_blk h.map h5 rfl
  have n2 : ¬ (db = bb ∨ kv.ownBlock = some db) := by
    rintro (e | e)
    · exact blk_ne h.hd h.hb (by decide) e
    · exact nk h.hd (by decide) e
  have hge : ∀ k, (k = bb ∨ kv.ownBlock = some k) → B ≤ k := by
    rintro k (rfl | e)
    · exact h.geb
    · exact h.bufB k e
  exact ⟨hb2.set 2 _, h.hd.fr hF n2, h.prg.fr hF hge, own_fr h.sts hF n5, fun s hs => own_fr (h.row s hs) hF (n6 s hs), fun s hs => ⟨(h.next s hs).1.fr hF (n7 s hs), (h.next s hs).2⟩,
    .inr ⟨kg, kn, kc, cs, rfl, hkn, hkc, hcl, hB.set_ne nkg _⟩, fun k hk' => by
      simp [Value.ownBlock] at hk'; subst hk'
      rcases hk with hk | hk
      · exact h.bufB _ hk
      · have := h.geb; omega, map_fr h.map hF n3, h.cache, h.geb, h.ged, h.gem, h.BM, h.apart, h.isMap⟩

/-- The text of a key. -/
def keyStr (f : List Nat) : ByteArray := strOfNums ((keyBytes f).map fun x : Nat => (x : Int))
theorem keyStr_data (f : List Nat) : (keyStr f).data.toList = keyText f := by
  simp only [keyStr, strOfNums_data, keyText, List.map_map]
  apply List.map_congr_left
  intro x _
  rfl
theorem keyStr_size (f : List Nat) : (keyStr f).size = 8 * f.length := by simp [keyStr, strOfNums_size, keyBytes_length]
theorem conv_key {w : World} {kg kc : Nat} {cs f : List Nat} (hB : Blk w kg (u8s cs) 5) (hl : 8 * f.length ≤ cs.length) (ht : cs.take (8 * f.length) = keyBytes f) :
    (convert 92 9 (.slice (some ⟨kg, 0, none⟩) (8 * f.length) kc)).run Tryd.prog w = .ok (.string (keyStr f)) w := by
  refine run_convert_bytes_arg w 92 5 Tryd.underlying92 Tryd.underlying5 kg 0 (8 * f.length) kc _ (by simp [keyBytes_length]) (fun i hi => ?_) 9 Tryd.underlying9
  have hc := hB.cell i (u8s_getD (by omega))
  rw [Nat.zero_add, hc]
  have e : (keyBytes f)[i]? = cs[i]? := by rw [← ht, List.getElem?_take_of_lt hi]
  simp only [List.getD_eq_getElem?_getD, List.getElem?_map, e]
  rw [List.getElem?_eq_getElem (by omega)]
  rfl
theorem keyedS : Keyed Tryd.prog 9 := string_keyed Tryd.underlying9
theorem keyOf_key {f : List Nat} (hf : f.length ≤ 1000000000) : keyOf Tryd.prog 9 (.string (keyStr f)) = some (keyLit f) := by
  rw [WideMaps.keyOf_string_mk Tryd.underlying9 (by rw [keyStr_size]; simp only [maxLen]; omega), keyStr_data]
  rfl
theorem zero3 (w : World) : (zeroValue 3).run Tryd.prog w = .ok (.int .i64 0) w := by kernel_rfl
theorem look_key {w : World} {mb n : Nat} {D : DataW Unit} {f : List Nat} (h : w.ownsMap Tryd.prog 9 (plainElem Tryd.prog 3) mb n D) (hf : f.length ≤ 1000000000) :
    ∃ c : Int, (Instr.lookup 109 (.map (some mb)) (.string (keyStr f)) true).run Tryd.prog w = .ok (.tuple #[.int .i64 c, .bool (has D (keyLit f))]) w ∧ D.atKey (keyLit f) (.lit (.int .i64 0)) = .lit (.int .i64 c) := by
  obtain ⟨v, ps, hrun, hv⟩ := h.look_ok keyedS Tryd.underlying109 (zero3 w) (plainElem_int Tryd.underlying3 (by decide)) (keyOf_key hf)
  obtain ⟨c, rfl, hc, hwc⟩ := plainElem_int_inv Tryd.underlying3 hv
  exact ⟨c, hrun, congrArg Prod.fst hc⟩

theorem DB.drewN {w : World} {bb db mb : Nat} {pv : Value} {p : List Ins} {B M : Nat} {kv sv : Value} {S : List DSt} {D : DataW Unit} (h : DB w bb db mb pv p B M kv sv S D) (n : Nat) : DB (w.drewN n) bb db mb pv p B M kv sv S D :=
  h.fr ((Fr.refl (fun _ => False) w).drewN n) (fun _ h => h.elim) (fun h => h) (fun h => h) (fun h => h) (fun _ _ h => h) (fun _ _ h => h) (fun _ _ _ _ h => h) (fun _ _ h => h)
/-- A row of places is neither the builder nor its key. -/
theorem own_not_key {w : World} {bb db mb : Nat} {pv : Value} {p : List Ins} {B M : Nat} {kv sv v : Value} {S : List DSt} {D : DataW Unit} {base n : Nat} {xs : List Value} (h : DB w bb db mb pv p B M kv sv S D) (ho : w.ownsRow base 46 1 v n xs) :
    ∀ k, v.ownBlock = some k → ¬ (k = bb ∨ kv.ownBlock = some k) := by
  rintro k hk (rfl | e)
  · exact own_ne_blk ho h.hb (by decide) hk
  · obtain ⟨c5, h5⟩ := buf_blk h.buf e
    exact own_ne_blk ho h5 (by decide) hk
theorem cf_trans {w w1 w2 : World} {bb db mb : Nat} {kv sv r : Value} (h1 : Fr (fun k => r.ownBlock = some k) w w1) (h2 : Fr (fun k => k = bb ∨ kv.ownBlock = some k) w1 w2) : Fr (CF bb db mb kv sv r) w w2 :=
  (h1.mono (G := CF bb db mb kv sv r) (fun i _ hi => .inr (.inr (.inr (.inr (.inr hi)))))).trans h2 (fun i _ hi => by
    rcases hi with hi | hi
    · exact .inl hi
    · exact .inr (.inr (.inr (.inl hi))))
theorem key_new_or {w w1 : World} {F : Nat → Prop} {kv : Value} {kg kn kc : Nat} (h1 : Fr F w w1) (hk : kv.ownBlock = some kg ∨ w1.heap.size ≤ kg) : ∀ k, (Value.slice (some ⟨kg, 0, none⟩) kn kc).ownBlock = some k → kv.ownBlock = some k ∨ w.heap.size ≤ k := by
  intro k h
  simp [Value.ownBlock] at h
  subst h
  exact hk.imp id (Nat.le_trans h1.size)

theorem run_mk_i64_256 (W : World) : (Instr.makeSlice 112 (.int .i64 256) (.int .i64 256)).run Tryd.prog W = .ok (.slice (some ⟨W.heap.size, 0, none⟩) 256 256) (W.alloc (.cells (i64s (List.replicate 256 0)).toArray 3)) := by
  have h := run_mk 112 3 (.int .i64 0) 8 Tryd.underlying112 (by kernel_rfl) rfl .i64 .i64 256 256 (Nat.le_refl _) (by decide) (by decide) W
  have e : i64s (List.replicate 256 0) = List.replicate 256 (Value.int .i64 0) := by rw [i64s, List.map_replicate]; rfl
  rw [e]
  exact h
theorem info115 : (Tryd.prog.info? 115).map (fun i => (i.zero, i.size, i.bytes)) = some (some (.agg #[.slice none 0 0, .slice none 0 0, .bool false]), 3, 56) := by kernel_rfl

theorem own_drewN {w : World} {base n : Nat} {e : TypeId} {size : Nat} {v : Value} {xs : List Value} (h : w.ownsRow base e size v n xs) (m : Nat) : (w.drewN m).ownsRow base e size v n xs := h
theorem cell_one {w : World} {a : Addr} {v : Value} {o1 : Obj} {m : Nat} (h : w.cell? a = some v) : ((w.drewN m).alloc o1).cell? a = some v :=
  Fr.cell (F := fun _ => False) (((Fr.refl _ w).drewN m).alloc o1) h (fun h => h)
theorem frz_one {w : World} {a : Addr} {o1 : Obj} {m : Nat} (h : w.frozen? a = false) (hlt : a.block < w.heap.size) : ((w.drewN m).alloc o1).frozen? a = false :=
  (World.frozen?_of_block (w := w) ((((Fr.refl (fun _ => False) w).drewN m).alloc o1).block a.block hlt (fun h => h))).trans h
theorem cell_set_ne {w : World} {a b : Nat} {o o' : Nat} {v u : Value} (h : a ≠ b) (hc : w.cell? ⟨a, o, none⟩ = some v) : (w.setCell ⟨b, o', none⟩ u).cell? ⟨a, o, none⟩ = some v := by
  rw [World.cell?_setCell_other]
  · exact hc
  · intro e; injection e with e; exact h e.symm
theorem lt_two {w : World} {b m : Nat} {o1 o2 : Obj} (h : b < w.heap.size) : b < (((w.drewN m).alloc o1).alloc o2).heap.size := by simp; omega
theorem cell_two {w : World} {a : Addr} {v : Value} {o1 o2 : Obj} {m : Nat} (h : w.cell? a = some v) : (((w.drewN m).alloc o1).alloc o2).cell? a = some v :=
  Fr.cell (F := fun _ => False) ((((Fr.refl _ w).drewN m).alloc o1).alloc o2) h (fun h => h)
theorem frz_two {w : World} {a : Addr} {o1 o2 : Obj} {m : Nat} (h : w.frozen? a = false) (hlt : a.block < w.heap.size) : (((w.drewN m).alloc o1).alloc o2).frozen? a = false :=
  (World.frozen?_of_block (w := w) (((((Fr.refl (fun _ => False) w).drewN m).alloc o1).alloc o2).block a.block hlt (fun h => h))).trans h
theorem news_two (w : World) (C cs : List Value) (t : TypeId) (m : Nat) : ∀ j u, cs[j]? = some u → (((w.alloc (.cells C.toArray 3)).alloc (.cells cs.toArray t)).drewN m).cell? ((⟨w.heap.size + 1, 0, none⟩ : Addr).add j) = some u := by
  intro j u hu
  have hB := Blk.newAt (w.alloc (.cells C.toArray 3)) cs t (w.heap.size + 1) (by simp)
  have := hB.cell j hu
  have e : (⟨w.heap.size + 1, 0, none⟩ : Addr).add j = ⟨w.heap.size + 1, j, none⟩ := by unfold Addr.add; split <;> simp_all
  rw [e]
  exact this

/-- A new state's row and the longer list of states. -/
theorem state_laid {w w1 : World} {bb db mb : Nat} {pv : Value} {p : List Ins} {B M : Nat} {kv sv iv : Value} {S : List DSt} {D : DataW Unit} {C cs : List Value} {f : List Nat} {mm : Bool} {gg cap m : Nat} (h : DB w bb db mb pv p B M kv sv S D) (hsd : sv.ownBlock ≠ some db)
    (hg : (((w.drewN m).alloc (.cells C.toArray 3)).alloc (.cells cs.toArray 115)).grownBy w1 sv.ownBlock) (ho : w1.ownsRow B 115 3 (.slice (some ⟨gg, 0, none⟩) (S.length + 1) cap) (S.length + 1) (S.flatMap DSt.cells ++ [iv, .slice (some ⟨w.heap.size, 0, none⟩) 256 256, .bool mm]))
    (hat : sv.ownBlock = some gg ∨ gg = w.heap.size + 2) :
    Blk (w1.setCell ⟨db, 1, none⟩ (.slice (some ⟨gg, 0, none⟩) (S.length + 1) cap)) db [pv, .slice (some ⟨gg, 0, none⟩) (S.length + 1) cap] 108 ∧ (w1.setCell ⟨db, 1, none⟩ (.slice (some ⟨gg, 0, none⟩) (S.length + 1) cap)).ownsRow B 115 3 (.slice (some ⟨gg, 0, none⟩) (S.length + 1) cap) (S.length + 1)
      (S.flatMap DSt.cells ++ (DSt.mk f iv w.heap.size (List.replicate 256 0) mm).cells) ∧ Blk (w1.setCell ⟨db, 1, none⟩ (.slice (some ⟨gg, 0, none⟩) (S.length + 1) cap)) w.heap.size C 3 ∧ w.heap.size ≤ w.heap.size ∧
      Fr (fun k => k = db ∨ sv.ownBlock = some k) w (w1.setCell ⟨db, 1, none⟩ (.slice (some ⟨gg, 0, none⟩) (S.length + 1) cap)) ∧ (∀ k, (Value.slice (some ⟨gg, 0, none⟩) (S.length + 1) cap).ownBlock = some k → sv.ownBlock = some k ∨ w.heap.size ≤ k) := by
  have hF0 : Fr (fun _ => False) w (((w.drewN m).alloc (.cells C.toArray 3)).alloc (.cells cs.toArray 115)) := (((Fr.refl _ w).drewN m).alloc _).alloc _
  have hF1 : Fr (fun k => sv.ownBlock = some k) w w1 := (hF0.mono (G := fun k => sv.ownBlock = some k) (fun _ _ h => h.elim)).grown hg (fun k hk _ => hk)
  have hdlt := h.hd.lt
  have hd1 := h.hd.fr hF1 hsd
  have hN : Blk w1 w.heap.size C 3 := by
    have h1 : Blk (((w.drewN m).alloc (.cells C.toArray 3)).alloc (.cells cs.toArray 115)) w.heap.size C 3 := (Blk.new (w.drewN m) C 3).alloc _
    have h2 : Fr (fun k => sv.ownBlock = some k) (((w.drewN m).alloc (.cells C.toArray 3)).alloc (.cells cs.toArray 115)) w1 := (Fr.refl _ _).grown hg (fun k hk _ => hk)
    refine h1.fr h2 (fun he => ?_)
    have := (own_lt' h.sts he).2
    omega
  have hne : w.heap.size ≠ db := by omega
  refine ⟨hd1.set 1 _, ?_, hN.set_ne hne _, Nat.le_refl _, Fr.setCell (F := fun k => k = db ∨ sv.ownBlock = some k) (p := ⟨db, 1, none⟩) (hF1.mono (fun _ _ h => .inr h)) (fun _ => .inl rfl) _, ?_⟩
  · refine own_fr ho ((Fr.refl (fun k => k = db) w1).setCell (p := ⟨db, 1, none⟩) (fun _ => rfl) _) (fun k hk hkd => ?_)
    subst hkd
    exact own_ne_blk ho hd1 (by decide) hk
  · intro k hk
    simp [Value.ownBlock] at hk
    subst hk
    rcases hat with hat | hat
    · exact .inl hat
    · exact .inr (by omega)

/-- What is left as it was while the list of states grows. -/
theorem DB.midway {w w' : World} {bb db mb : Nat} {pv : Value} {p : List Ins} {B M : Nat} {kv sv : Value} {S : List DSt} {D : DataW Unit} (h : DB w bb db mb pv p B M kv sv S D) (hf : Fr (fun k => k = db ∨ sv.ownBlock = some k) w w') :
    Blk w' bb [.pointer (some ⟨db, 0, none⟩), .map (some mb), kv] 111 ∧ Prg w' pv p B ∧ (∀ s, s ∈ S → w'.ownsRow M 46 1 s.iv s.l.length (u64s s.l)) ∧ (∀ s, s ∈ S → Blk w' s.nb (i64s s.nx) 3 ∧ s.nx.length = 256 ∧ B ≤ s.nb) ∧ Buf w' kv ∧ w'.ownsMap Tryd.prog 9 (plainElem Tryd.prog 3) mb S.length D ∧
      (∀ k cs, Blk w k cs 5 → Blk w' k cs 5) ∧ (∀ base n v xs, w.ownsRow base 46 1 v n xs → w'.ownsRow base 46 1 v n xs) := by
  have nb : ∀ {k : Nat} {cs : List Value} {t : TypeId}, Blk w k cs t → t ≠ 108 → t ≠ 115 → ¬ (k = db ∨ sv.ownBlock = some k) := by
    rintro k cs t hk h1 h2 (rfl | e)
    · exact h1 (hk.inj h.hd).2
    · exact own_ne_blk h.sts hk (Ne.symm h2) e
  have no : ∀ {base n : Nat} {v : Value} {xs : List Value}, w.ownsRow base 46 1 v n xs → ∀ k, v.ownBlock = some k → ¬ (k = db ∨ sv.ownBlock = some k) := by
    rintro base n v xs ho k hk (rfl | e)
    · exact own_ne_blk ho h.hd (by decide) hk
    · exact own_ne_own ho h.sts (by decide) hk e
  refine ⟨h.hb.fr hf (nb h.hb (by decide) (by decide)), h.prg.fr hf ?_, fun s hs => own_fr (h.row s hs) hf (no (h.row s hs)), fun s hs => ⟨(h.next s hs).1.fr hf (nb (h.next s hs).1 (by decide) (by decide)), (h.next s hs).2⟩, buf_fr h.buf hf ?_, map_fr h.map hf ?_,
    fun k cs hk => hk.fr hf (nb hk (by decide) (by decide)), fun base n v xs ho => own_fr ho hf (no ho)⟩
  · rintro k (rfl | e)
    · exact h.ged
    · exact (own_lt' h.sts e).1
  · intro k hk
    obtain ⟨c5, h5⟩ := buf_blk h.buf hk
    exact nb h5 (by decide) (by decide)
  · rintro (e | e)
    · exact map_ne_blk h.map h.hd e.symm
    · exact map_ne_own h.map h.sts e

theorem states_at (S : List DSt) (s : DSt) : (S.flatMap DSt.cells ++ s.cells)[S.length * 3]? = some s.iv := by
  have : (S.flatMap DSt.cells).length = S.length * 3 := by
    induction S with
    | nil => rfl
    | cons a S ih => simp only [List.flatMap_cons, List.length_append, ih, DSt.cells, List.length_cons, List.length_nil]; omega
  rw [List.getElem?_append_right (by omega), this, Nat.sub_self]
  rfl

theorem wf_small {n : Nat} (h : n ≤ 20000) : (Lit.int .i64 (n : Int)).wf = true := by
  exact WalkArith.wf_i64 (by omega)

/-- The builder behind a new state. -/
theorem DB.added {w w' w3 : World} {bb db mb : Nat} {pv : Value} {p : List Ins} {B M : Nat} {kv sv sv' iv : Value} {S : List DSt} {D : DataW Unit} {f : List Nat} {nb : Nat} {nx : List Nat} {mm : Bool} (hnxl : nx.length = 256) (h : DB w bb db mb pv p B M kv sv S D) (hf : Fr (fun k => k = db ∨ sv.ownBlock = some k) w w') (hg : Fr (fun k => k = mb) w' w3)
    (hm : w3.ownsMap Tryd.prog 9 (plainElem Tryd.prog 3) mb (S.length + 1) (D.put (keyLit f) (.lit (.int .i64 (S.length : Int))))) (hst : w'.ownsRow B 115 3 sv' (S.length + 1) (S.flatMap DSt.cells ++ (DSt.mk f iv nb nx mm).cells))
    (hdb : Blk w' db [pv, sv'] 108) (hnb : Blk w' nb (i64s nx) 3) (hge : w.heap.size ≤ nb) (hio : w'.ownsRow M 46 1 iv f.length (u64s f)) (hnone : ∀ (i : Nat) (s : DSt), 1 ≤ i → S[i]? = some s → s.l ≠ f) (hS1 : 1 ≤ S.length) (hfx : ∀ x, x ∈ f → x < 1073741824) :
    DB w3 bb db mb pv p B M kv sv' (S ++ [⟨f, iv, nb, nx, mm⟩]) (D.put (keyLit f) (.lit (.int .i64 (S.length : Int)))) := by
  obtain ⟨hbb3, hprg3, hrow3, hnx3, hbuf3, hmap3, -, -⟩ := h.midway hf
  have mne : ∀ {k : Nat} {cs : List Value} {t : TypeId}, Blk w' k cs t → ¬ (k = mb) := fun hk => map_ne_blk hmap3 hk
  have mno : ∀ {base n : Nat} {e : TypeId} {size : Nat} {v : Value} {xs : List Value}, w'.ownsRow base e size v n xs → ∀ k, v.ownBlock = some k → ¬ (k = mb) := fun ho k hk e => map_ne_own hmap3 ho (by rw [hk, e])
  have hkey : WideAt.IsKeyLit (keyLit f) := by unfold keyLit; trivial
  have hBsz : B ≤ nb := Nat.le_trans h.geb (Nat.le_trans (Nat.le_of_lt h.hb.lt) hge)
  refine ⟨hbb3.fr hg (mne hbb3), hdb.fr hg (mne hdb), hprg3.fr hg (fun k hk => by subst hk; exact h.gem), ?_, ?_, ?_, buf_fr hbuf3 hg (fun k hk => by obtain ⟨c5, h5⟩ := buf_blk hbuf3 hk; exact mne h5), h.bufB, by simpa using hm, ?_, h.geb, h.ged, h.gem, h.BM, ?_, h.isMap.put _ _⟩
  · have := own_fr hst hg (mno hst)
    simpa using this
  · intro s hs
    rcases List.mem_append.1 hs with hs | hs
    · exact own_fr (hrow3 s hs) hg (mno (hrow3 s hs))
    · simp at hs; subst hs
      exact own_fr hio hg (mno hio)
  · intro s hs
    rcases List.mem_append.1 hs with hs | hs
    · exact ⟨(hnx3 s hs).1.fr hg (mne (hnx3 s hs).1), (hnx3 s hs).2⟩
    · simp at hs; subst hs
      exact ⟨hnb.fr hg (mne hnb), hnxl, hBsz⟩
  · intro l hl
    by_cases e : l = f
    · subst e
      exact .inl ⟨S.length, ⟨l, iv, nb, nx, mm⟩, hS1, by rw [List.getElem?_append_right (Nat.le_refl _), Nat.sub_self]; rfl, rfl, has_put_same h.isMap hkey _, fun z => atKey_put_same h.isMap hkey _ z⟩
    · have hne : keyLit l ≠ keyLit f := fun he => e (keyText_inj hl hfx (by unfold keyLit at he; injection he))
      rcases h.cache l hl with ⟨i, s, h1, h2, h3, h4, h5⟩ | ⟨h1, h2⟩
      · refine .inl ⟨i, s, h1, by rw [List.getElem?_append_left (List.getElem?_eq_some_iff.1 h2).1]; exact h2, h3, by rw [has_put_other hne]; exact h4, fun z => by rw [atKey_put_other hne]; exact h5 z⟩
      · refine .inr ⟨fun i s hi hs => ?_, by rw [has_put_other hne]; exact h2⟩
        rcases Nat.lt_or_ge i S.length with hlt | hgt
        · rw [List.getElem?_append_left hlt] at hs
          exact h1 i s hi hs
        · rw [List.getElem?_append_right hgt] at hs
          rcases Nat.eq_zero_or_pos (i - S.length) with h0 | h0
          · rw [h0] at hs; simp at hs; subst hs; exact fun e' => e e'.symm
          · rw [List.getElem?_eq_none (by simp; omega)] at hs; cases hs
  · rw [List.map_append, List.nodup_append]
    refine ⟨h.apart, by simp, ?_⟩
    intro a ha b hb
    simp at hb; subst hb
    obtain ⟨s, hs, rfl⟩ := List.mem_map.1 ha
    have := (h.next s hs).1.lt
    omega

theorem reuse_in {w : World} {v1 r : Value} (hv : v1.ownBlock = r.ownBlock ∨ ∃ k, v1.ownBlock = some k ∧ w.heap.size ≤ k) : ∀ i, i < w.heap.size → v1.ownBlock = some i → r.ownBlock = some i := by
  intro i hi h
  rcases hv with hv | ⟨k, hv, hk⟩
  · rw [← hv]; exact h
  · rw [hv] at h; injection h with h; omega
theorem reuse_new {w w1 : World} {v1 v2 r : Value} {F : Nat → Prop} (hf : Fr F w w1) (hv : v1.ownBlock = r.ownBlock ∨ ∃ k, v1.ownBlock = some k ∧ w.heap.size ≤ k) (hb : v2.ownBlock = v1.ownBlock ∨ ∃ k, v2.ownBlock = some k ∧ w1.heap.size ≤ k) : v2.ownBlock = r.ownBlock ∨ ∃ k, v2.ownBlock = some k ∧ w.heap.size ≤ k := by
  rcases hb with hb | ⟨k, hb, hk⟩
  · rw [hb]; exact hv
  · exact .inr ⟨k, hb, Nat.le_trans hf.size hk⟩

theorem reuse_or {w : World} {v1 r : Value} (hv : v1.ownBlock = r.ownBlock ∨ ∃ k, v1.ownBlock = some k ∧ w.heap.size ≤ k) : ∀ k, v1.ownBlock = some k → r.ownBlock = some k ∨ w.heap.size ≤ k := by
  intro k h
  rcases hv with hv | ⟨k', hv, hk⟩
  · rw [← hv]; exact .inl h
  · rw [hv] at h; injection h with h; subst h; exact .inr hk
theorem reuse_apart {w w1 : World} {bb db mb : Nat} {pv : Value} {p : List Ins} {B M : Nat} {kv sv r v1 : Value} {S : List DSt} {D : DataW Unit} {F : Nat → Prop} (hf : Fr F w w1) (hr : Reuse w M S r) (h : DB w bb db mb pv p B M kv sv S D)
    (hv : v1.ownBlock = r.ownBlock ∨ ∃ k, v1.ownBlock = some k ∧ w.heap.size ≤ k) : ∀ s, s ∈ S → ∀ k, s.iv.ownBlock = some k → v1.ownBlock ≠ some k := by
  intro s hs k hk
  rcases hv with hv | ⟨k', hv, hk'⟩
  · rw [hv]; exact hr.apart s hs k hk
  · rw [hv]; intro e; injection e with e; subst e
    have := (own_lt' (h.row s hs) hk).2
    omega

theorem filter_snoc {α : Type} (q : α → Bool) (l : List α) (x : α) : (l ++ [x]).filter q = l.filter q ++ (if q x then [x] else []) := by
  rw [List.filter_append]
  by_cases h : q x = true <;> simp [h]

set_option maxRecDepth 100000 in
set_option maxHeartbeats 4000000 in
theorem cached_calls {bb db mb : Nat} {pv : Value} {p : List Ins} {B M : Nat} {kv sv r : Value} {S : List DSt} {D : DataW Unit} {b bd bs : Nat} {L : List Nat} (w : World)
    (h : DB w bb db mb pv p B M kv sv S D) (hs : SS w b bd bs p.length L) (hr : Reuse w M S r) (g1 : B ≤ b) (g2 : B ≤ bd) (g3 : B ≤ bs) (m2 : bd < M) (m3 : bs < M) (hM : M ≤ w.heap.size) (hS1 : 1 ≤ S.length) (hSb : S.length ≤ 20000) :
    Calls Tryd.prog 42 #[.pointer (some ⟨bb, 0, none⟩), .pointer (some ⟨b, 0, none⟩), r] w fun e w' => ∃ (ns : Nat) (r' kv' sv' : Value) (S' : List DSt) (D' : DataW Unit), e = .returned (.tuple #[.int .i64 (ns : Int), r']) ∧ DB w' bb db mb pv p B M kv' sv' S' D' ∧ Reuse w' M S' r' ∧
      COut S S' (L.filter (rm p)) (L.any (mt p)) ns ∧ Fr (CF bb db mb kv sv r) w w' ∧ (∀ k, kv'.ownBlock = some k → kv.ownBlock = some k ∨ w.heap.size ≤ k) ∧ (∀ k, sv'.ownBlock = some k → sv.ownBlock = some k ∨ w.heap.size ≤ k) ∧ (∀ k, r'.ownBlock = some k → r.ownBlock = some k ∨ w.heap.size ≤ k) ∧ (∀ s, s ∈ S' → s ∈ S ∨ w.heap.size ≤ s.nb) := by
  obtain ⟨rn, rxs, hown⟩ := hr.own
  obtain ⟨A, rc, rfl, hrc, hrA, hown0, hrm⟩ := own_form hown
  have hsl := sl0 A rn rc hrc hrA
  have hlen := set_len hs
  have hL := hs.len
  have hsm := hs.small
  have HM := Lib.hid hrm
  clear hrm
  go_enter Tryd.func42, Tryd.ntmps42
  go_upto_if 19 with fail
  go_cut [8] (fun v wc => ∃ v0, v = v0 ∧ wc.ownsRow M 46 1 v0 0 [] ∧ Fr (fun _ => False) w wc ∧ (v0.ownBlock = (Value.slice A rn rc).ownBlock ∨ ∃ k, v0.ownBlock = some k ∧ w.heap.size ≤ k))
  case first =>
    by_cases hc0 : rc = 0
    · subst hc0
      have hmk : ∀ W : World, (Instr.makeSlice 113 (.int .i64 0) (.int .i64 (L.length : Int))).run Tryd.prog W = .ok (.slice (some ⟨W.heap.size, 0, none⟩) 0 L.length) (W.alloc (.cells (u64s (List.replicate L.length 0)).toArray 46)) := run_mk_u64 0 L.length (Nat.zero_le _) (by omega) .i64 .i64
      generalize hC : (u64s (List.replicate L.length 0)).toArray = C at hmk
      have HC := Lib.hid hC
      clear hC
      go_wp2_with (go_at_call 60; refine hlen.mono ?_; rintro e w' ⟨rfl, rfl⟩)
      go_meet
      refine ⟨_, rfl, ?_, (Fr.refl _ w).alloc _, .inr ⟨_, rfl, Nat.le_refl _⟩⟩
      have := own_of_blk (w := w.alloc (.cells C 46)) (base := M) (n := 0) (c := L.length) (e := 46) (size := 1) (cs := u64s (List.replicate L.length 0)) (b := w.heap.size) (by rw [← HC.out]; exact Blk.new _ _ _) hM (Nat.zero_le _) (by simp only [maxLen]; omega) (by simp [u64s])
      simpa using this
    · have hd : ((rc : Int) == 0) = false := by rw [beq_eq_false_iff_ne]; omega
      go_wp2
      go_meet
      exact ⟨_, rfl, hown0, Fr.refl _ w, .inl (by cases A <;> rfl)⟩
  case rest =>
  obtain ⟨v0, rfl, ho0, hf0, hv0⟩ := hcut
  clear hsl hlen
  have hge := SSf_ge g1 g2 g3
  have hwf := h.prg.wf
  have hfr0 : Fr (fun k => (Value.slice A rn rc).ownBlock = some k) w wc := hf0.mono (fun _ _ h => h.elim)
  go_wp2_with fail
  go_loopg [8, 9, 10] (L.length + 1) (fun g v m i wr => ∃ k : Nat, k ≤ L.length ∧ g = L.length - k + 1 ∧ i = .int .u64 (k : Int) ∧ m = .bool ((L.take k).any (mt p)) ∧
    wr.ownsRow M 46 1 v ((L.take k).filter (rm p)).length (u64s ((L.take k).filter (rm p))) ∧ Fr (fun k => (Value.slice A rn rc).ownBlock = some k) w wr ∧ (v.ownBlock = (Value.slice A rn rc).ownBlock ∨ ∃ k, v.ownBlock = some k ∧ w.heap.size ≤ k))
  case atStart => exact ⟨0, Nat.zero_le _, by omega, rfl, rfl, ho0, hfr0, hv0⟩
  case round =>
    obtain ⟨k, hk, hg, rfl, rfl, ho1, hf1, hv1⟩ := hrel
    subst hg
    have h1 := h.reuse_fr hr hf1
    have nbs : ∀ x, SSf b bd bs x → ¬ ((Value.slice A rn rc).ownBlock = some x) := by
      rintro x (rfl | rfl | rfl) hx
      · exact own_ne_blk hown hs.head (by decide) hx
      · have := (own_lt' hown hx).1; omega
      · have := (own_lt' hown hx).1; omega
    have hs1 := hs.fr hf1 (nbs _ (.inl rfl)) (nbs _ (.inr (.inl rfl))) (nbs _ (.inr (.inr rfl)))
    have hl1 := set_len hs1
    by_cases hlt : k < L.length
    · obtain ⟨y, hy⟩ : ∃ y, L[k]? = some y := ⟨L[k], by simp [hlt]⟩
      have hyp : y < p.length := hs.lt y (List.mem_of_getElem? hy)
      have hget := set_get hs1 k y hy
      obtain ⟨x, hx⟩ : ∃ x, p[y]? = some x := ⟨p[y], by simp [hyp]⟩
      have hb0 := h1.hb.cell 0 rfl
      have hd0 := h1.hd.cell 0 rfl
      obtain ⟨pa, cp, g, o, hpe, hpc, hv⟩ := h1.prg.get hx
      subst hpe
      have hn1 : ((L.take k).filter (rm p)).length ≤ k := Nat.le_trans (List.length_filter_le _ _) (List.length_take_le _ _)
      have hM1 : M ≤ wr.heap.size := Nat.le_trans hM hf1.size
      have htk : L.take (k + 1) = L.take k ++ [y] := take_snoc_getElem? hy
      have ef : (L.take (k + 1)).filter (rm p) = (L.take k).filter (rm p) ++ (if rm p y then [y] else []) := by rw [htk, filter_snoc]
      have ea : (L.take (k + 1)).any (mt p) = ((L.take k).any (mt p) || mt p y) := by rw [htk, List.any_append]; simp
      have HE := Lib.hid (And.intro ef (And.intro ea (And.intro hf1 (And.intro hv1 (And.intro hr (And.intro hown hs))))))
      have H1 := Lib.hid (And.intro h (And.intro h1 hs1))
      generalize hfx : (L.take k).filter (rm p) = f at *
      generalize hax : (L.take k).any (mt p) = mb0 at *
      clear htk ef ea hf1 hv1 hr hown hs h h1 hs1 ho0 hfr0 hf0 hv0 hown0 nbs hfx hax
      cases x with
      | jmp tt =>
        have hv0 : wr.cell? ⟨g, o, none⟩ = some (.int .i64 1) := hv 0 _ rfl
        clear hv
        go_wp2_with (first | (go_at_call 60; refine hl1.mono ?_; rintro e w' ⟨rfl, rfl⟩) | (go_at_call 61; refine hget.mono ?_; rintro e w' ⟨rfl, rfl⟩))
        obtain ⟨ef, ea, hf1, hv1, -⟩ := HE.out
        go_roundg (L.length - (k + 1) + 1)
        case measure => omega
        case rel => exact ⟨k + 1, by omega, rfl, by simp, by simp [ea, mt, hx], by simpa [ef, rm, hx] using ho1, hf1, hv1⟩
      | split a' b' =>
        have hv0 : wr.cell? ⟨g, o, none⟩ = some (.int .i64 2) := hv 0 _ rfl
        clear hv
        go_wp2_with (first | (go_at_call 60; refine hl1.mono ?_; rintro e w' ⟨rfl, rfl⟩) | (go_at_call 61; refine hget.mono ?_; rintro e w' ⟨rfl, rfl⟩))
        obtain ⟨ef, ea, hf1, hv1, -⟩ := HE.out
        go_roundg (L.length - (k + 1) + 1)
        case measure => omega
        case rel => exact ⟨k + 1, by omega, rfl, by simp, by simp [ea, mt, hx], by simpa [ef, rm, hx] using ho1, hf1, hv1⟩
      | rng lo hi =>
        have hv0 : wr.cell? ⟨g, o, none⟩ = some (.int .i64 3) := hv 0 _ rfl
        clear hv
        go_wp2_with (first | (go_at_call 60; refine hl1.mono ?_; rintro e w' ⟨rfl, rfl⟩) | (go_at_call 61; refine hget.mono ?_; rintro e w' ⟨rfl, rfl⟩) | (at_builtin; go_must (refine app1 _ rfl _ _ 113 rfl M 46 (.int .u64 0) 1 8 Tryd.underlying113 (by kernel_rfl) rfl (by decide) u8 f.length (u64s f) [.int .u64 (y : Int)] rfl rfl ho1 rfl (by simp [Value.oneCell']) (by omega) (by decide) hM1 ?_); intro v2 w2 ho2 hf2 hb2))
        obtain ⟨ef, ea, hf1, hv1, -⟩ := HE.out
        go_roundg (L.length - (k + 1) + 1)
        case measure => omega
        case rel => exact ⟨k + 1, by omega, rfl, by simp, by simp [ea, mt, hx], by simpa [ef, rm, hx, u64s] using ho2, hf1.trans hf2 (reuse_in hv1), (reuse_new hf1 hv1 hb2)⟩
      | mtch =>
        have hv0 : wr.cell? ⟨g, o, none⟩ = some (.int .i64 0) := hv 0 _ rfl
        clear hv
        go_wp2_with (first | (go_at_call 60; refine hl1.mono ?_; rintro e w' ⟨rfl, rfl⟩) | (go_at_call 61; refine hget.mono ?_; rintro e w' ⟨rfl, rfl⟩) | (at_builtin; go_must (refine app1 _ rfl _ _ 113 rfl M 46 (.int .u64 0) 1 8 Tryd.underlying113 (by kernel_rfl) rfl (by decide) u8 f.length (u64s f) [.int .u64 (y : Int)] rfl rfl ho1 rfl (by simp [Value.oneCell']) (by omega) (by decide) hM1 ?_); intro v2 w2 ho2 hf2 hb2))
        obtain ⟨ef, ea, hf1, hv1, -⟩ := HE.out
        go_roundg (L.length - (k + 1) + 1)
        case measure => omega
        case rel => exact ⟨k + 1, by omega, rfl, by simp, by simp [ea, mt, hx], by simpa [ef, rm, hx, u64s] using ho2, hf1.trans hf2 (reuse_in hv1), (reuse_new hf1 hv1 hb2)⟩
    · obtain rfl : k = L.length := by omega
      simp only [List.take_length] at ho1 ⊢
      have HX := Lib.hid (And.intro h (And.intro h1 (And.intro hf1 (And.intro hv1 (And.intro hr (And.intro hown (And.intro hs hs1)))))))
      have hff1 := hf1
      have hvv1 := hv1
      clear hv1 hown hs hs1 ho0 hfr0 hf0 hv0 hown0 nbs h
      by_cases hf0e : L.filter (rm p) = []
      · have e0 : (L.filter (rm p)).length = 0 := by rw [hf0e]; rfl
        rw [e0] at ho1
        obtain ⟨A1, c1, hu8, hc1, hA1, ho1', hm1⟩ := own_form ho1
        subst hu8
        have H1 := Lib.hid (And.intro hf0e (And.intro ho1 (And.intro hff1 (And.intro hvv1 hr))))
        clear hf0e e0 ho1 ho1' hff1 hvv1 hr hm1 hf1
        go_wp2_with (go_at_call 60; refine hl1.mono ?_; rintro e w' ⟨rfl, rfl⟩)
        go_ret2
        obtain ⟨hf0e, ho1, hff1, hvv1, hr⟩ := H1.out
        obtain ⟨h, h1, -⟩ := HX.out
        refine ⟨0, _, kv, sv, S, D, rfl, h1, ⟨⟨_, _, ho1⟩, ?_⟩, .inl ⟨hf0e, rfl, rfl⟩, hff1.mono (fun i _ hi => .inr (.inr (.inr (.inr (.inr hi))))), fun _ h => .inl h, fun _ h => .inl h, reuse_or hvv1, fun _ h => .inl h⟩
        exact reuse_apart hff1 hr h hvv1
      · have hfl : 1 ≤ (L.filter (rm p)).length := by
          rcases Nat.eq_zero_or_pos (L.filter (rm p)).length with h0 | h0
          · exact absurd (List.eq_nil_of_length_eq_zero h0) hf0e
          · exact h0
        have hfp : (L.filter (rm p)).length ≤ 1000000000 := by
          have := List.length_filter_le (rm p) L
          omega
        have hfx : ∀ x, x ∈ L.filter (rm p) → x < 1073741824 := by
          intro x hx
          have h5 := (HX.out.2.2.2.2.2.2.1).lt x (List.mem_filter.1 hx).1
          omega
        generalize hfg : L.filter (rm p) = f at *
        generalize hmg : L.any (mt p) = mm at *
        obtain ⟨ig, ic, hu8, hic, hicm, -⟩ := own_cell ho1 (j := 0) (u := .int .u64 ((f.getD 0 0 : Nat) : Int)) (by simp only [u64s, List.getElem?_map, List.getD_eq_getElem?_getD]; rw [List.getElem?_eq_getElem (by omega)]; rfl)
        subst hu8
        have hread : ∀ (i x : Nat), f[i]? = some x → wr.cell? ⟨ig, i, none⟩ = some (.int .u64 (x : Int)) := by
          intro i x hx
          obtain ⟨g', c', he, _, _, hc, _⟩ := own_cell ho1 (u64s_at hx)
          simp at he
          obtain ⟨rfl, _⟩ := he
          exact hc
        have hnek : kv.ownBlock ≠ some ig := by
          intro he
          obtain ⟨c5, h5⟩ := buf_blk h1.buf he
          exact own_ne_blk ho1 h5 (by decide) rfl
        have hkey := key_calls wr f ig ic kv hfl hfp hic hfx hread h1.buf hnek
        have hb0 := h1.hb.cell 0 rfl
        have hb1 := h1.hb.cell 1 rfl
        have hb2 := h1.hb.cell 2 rfl
        have HY := Lib.hid (And.intro hf0e (And.intro ho1 (And.intro hff1 (And.intro hvv1 (And.intro hr (And.intro hfx hread))))))
        have hH1 := Lib.hid h1
        have hne0 : ((f.length : Int) == 0) = false := by rw [beq_eq_false_iff_ne]; omega
        clear hf0e ho1 hff1 hvv1 hr hfx hread hf1 h1 hicm hnek
        go_upto_region 17 with (go_at_call 60; refine hl1.mono ?_; rintro e w' ⟨rfl, rfl⟩)
        go_cut [] (fun wx => ∃ kg kc cs, DB wx bb db mb pv p B M (.slice (some ⟨kg, 0, none⟩) (8 * f.length) kc) sv S D ∧ Blk wx kg (u8s cs) 5 ∧ cs.length = kc ∧ 8 * f.length ≤ kc ∧ cs.take (8 * f.length) = keyBytes f ∧ (kv.ownBlock = some kg ∨ wr.heap.size ≤ kg) ∧ Fr (fun k => k = bb ∨ kv.ownBlock = some k) wr wx)
        case first =>
          go_wp2_with fail
          refine hkey.mono ?_
          rintro e w2 ⟨kg, kc, cs, rfl, k1, k2, k3, k4, k5, k6, k7⟩
          have hd := hH1.out.newkey k7 k4 k3 k1 k2 k6
          have hbb2 := hH1.out.hb.fr k7 (by
            intro he
            obtain ⟨c5, h5⟩ := buf_blk hH1.out.buf he
            exact absurd (h5.inj hH1.out.hb).2 (by decide))
          have hc2 := hbb2.cell 2 rfl
          have hf2 := hbb2.frz 2
          have HD := Lib.hid (And.intro hd (And.intro k1 (And.intro k3 (And.intro k5 k6))))
          clear hd k1 k2 k3 k4 k5 k6 k7 hbb2 hkey hb0 hb1 hb2
          go_wp2_with fail
          go_meet
          obtain ⟨⟨d1, d2, d3⟩, k1, k3, k5, k6⟩ := HD.out
          exact ⟨kg, kc, cs, d1, d2, k3, k1, k5, k6, d3⟩
        case rest =>
        obtain ⟨kg, kc, cs, hd2, hB2, hcl, hkc, htk, hkg, hF2⟩ := hcut
        clear hkey hb0 hb1 hb2 hl1
        have hconv : ∀ nq, (convert 92 9 (.slice (some ⟨kg, 0, none⟩) (8 * f.length) kc)).run Tryd.prog (wc.drewN nq) = .ok (.string (keyStr f)) (wc.drewN nq) := fun nq => conv_key (hB2.drewN nq) (by omega) htk
        obtain ⟨ci, hlk, hat⟩ := look_key hd2.map hfp
        have hlook : ∀ nq, (Instr.lookup 109 (.map (some mb)) (.string (keyStr f)) true).run Tryd.prog (wc.drewN nq) = .ok (.tuple #[.int .i64 ci, .bool (has D (keyLit f))]) (wc.drewN nq) := by
          intro nq
          obtain ⟨c', h1, h2⟩ := look_key (w := wc.drewN nq) (n := S.length) (D := D) (mb := mb) hd2.map hfp
          rw [hat] at h2
          injection h2 with h2
          injection h2 with _ h2
          rw [h1, h2]
        have hb0 := hd2.hb.cell 0 rfl
        have hb1 := hd2.hb.cell 1 rfl
        have hb2 := hd2.hb.cell 2 rfl
        obtain ⟨hf0e, ho1, hff1, hvv1, hr, hfx, hread⟩ := HY.out
        clear HY
        rcases hd2.cache f hfx with ⟨i, s, hi1, hsi, hsl, hhas, hati⟩ | ⟨hnone, hhas⟩
        · have hci : ci = (i : Int) := by
            have := hati (.lit (.int .i64 0))
            rw [hat] at this
            injection this with this
            injection this
          rw [hhas, hci] at hlook
          have HZ := Lib.hid (And.intro hf0e (And.intro ho1 (And.intro hff1 (And.intro hvv1 (And.intro hr (And.intro hd2 (And.intro hkg (And.intro hF2 (And.intro hi1 (And.intro hsi hsl))))))))))
          clear hf0e ho1 hff1 hvv1 hr hfx hread hd2 hkg hF2 hi1 hsi hsl hhas hati hat hlk hB2 htk hci
          go_wp2_with fail
          go_quiet (fail)
          go_wp2_with fail
          go_ret2
          obtain ⟨hf0e, ho1, hff1, hvv1, hr, hd2, hkg, hF2, hi1, hsi, hsl⟩ := HZ.out
          exact ⟨i, _, _, sv, S, D, rfl, hd2.drewN _, ⟨⟨_, _, own_fr (own_fr ho1 hF2 (own_not_key hH1.out ho1)) ((Fr.refl (fun _ => False) wc).drewN _) (fun _ _ h => h)⟩, reuse_apart hff1 hr HX.out.1 hvv1⟩, .inr (.inl ⟨by rw [hfg]; exact hf0e, rfl, hi1, s, hsi, by rw [hfg]; exact hsl⟩),
            (cf_trans hff1 hF2).drewN _, key_new_or hff1 hkg, fun _ h => .inl h, reuse_or hvv1, fun _ h => .inl h⟩
        · rw [hhas] at hlook
          have HZ := Lib.hid (And.intro hf0e (And.intro ho1 (And.intro hff1 (And.intro hvv1 (And.intro hr (And.intro hd2 (And.intro hkg (And.intro hF2 (And.intro hnone hhas)))))))))
          have HT := Lib.hid (And.intro hB2 htk)
          have HFX := Lib.hid hfx
          have hd0 := hd2.hd.cell 0 rfl
          have hd1 := hd2.hd.cell 1 rfl
          have hfd1 := hd2.hd.frz 1
          have hlb := hd2.hb.lt
          have hld := hd2.hd.lt
          have hsts := hd2.sts
          have hBw : B ≤ wc.heap.size := Nat.le_trans hd2.geb (Nat.le_of_lt hd2.hb.lt)
          have hsd : sv.ownBlock ≠ some db := own_ne_blk hd2.sts hd2.hd (by decide)
          have hsb : sv.ownBlock ≠ some bb := own_ne_blk hd2.sts hd2.hb (by decide)
          have hmk : ∀ W : World, (Instr.makeSlice 112 (.int .i64 256) (.int .i64 256)).run Tryd.prog W = .ok (.slice (some ⟨W.heap.size, 0, none⟩) 256 256) (W.alloc (.cells (i64s (List.replicate 256 0)).toArray 3)) := run_mk_i64_256
          generalize hC : i64s (List.replicate 256 0) = C at hmk
          have HC := Lib.hid hC
          have hbd : bb ≠ db := blk_ne hd2.hb hd2.hd (by decide)
          clear hf0e ho1 hff1 hvv1 hr hfx hread hd2 hkg hF2 hnone hhas hat hlk hB2 htk hC
          obtain ⟨i0, hi0, hz0, hz1, hz2⟩ := info_parts info115
          go_wp2_with fail
          go_quiet (fail)
          go_upto_region 21 with fail
          go_cut [] (fun wx => ∃ nb sv', Blk wx db [pv, sv'] 108 ∧ wx.ownsRow B 115 3 sv' (S.length + 1) (S.flatMap DSt.cells ++ (DSt.mk f (.slice (some ⟨ig, 0, none⟩) f.length ic) nb (List.replicate 256 0) mm).cells) ∧ Blk wx nb (i64s (List.replicate 256 0)) 3 ∧ wc.heap.size ≤ nb ∧
            Fr (fun k => k = db ∨ sv.ownBlock = some k) wc wx ∧ (∀ k, sv'.ownBlock = some k → sv.ownBlock = some k ∨ wc.heap.size ≤ k))
          case first =>
            clear hconv hlook
            refine wp_region_seqT (fun w' => w'.cell? ⟨bb, 0, none⟩ = some (.pointer (some ⟨db, 0, none⟩)) ∧ w'.cell? ⟨db, 1, none⟩ = some sv ∧ w'.frozen? ⟨db, 1, none⟩ = false) (fun i => i ∉ [12, 15, 16, 17, 18, 19]) (fun i => 17 ≤ i) [0, 1, 2, 3, 4, 5, 6, 7, 8, 9, 10, 11, 13, 12, 14, 15, 16, 17, 18, 19] (by kernel_rfl) (by kernel_rfl) (fun c a d v w h => by cases d <;> exact h) ⟨hb0, hd1, hfd1⟩ ?_
            iterate 13 (apply seqT_read (ho := rfl) (hr := rfl) (hg := rfl); (rintro w' ⟨q1, q2, q3⟩; go_simp; rfl))
            refine seqT_do rfl rfl fun K hK => ?_
            go_simp
            refine hK _ _ (fun _ => ⟨cell_one hb0, cell_one hd1, frz_one hfd1 hld⟩) ?_
            clear hK K
            (apply seqT_read (ho := rfl) (hr := rfl) (hg := rfl); (rintro w' ⟨q1, q2, q3⟩; go_simp; rfl))
            refine seqT_do rfl rfl fun K hK => ?_
            go_simp
            refine hK _ _ (fun _ => ⟨cell_two hb0, cell_two hd1, frz_two hfd1 hld⟩) ?_
            clear hK K
            refine seqT_do rfl rfl fun K hK => ?_
            refine step_append_lies _ (by rfl) _ _ _ (by rfl) B 115 i0 _ 3 56 Tryd.underlying106 hi0 hz0 hz1 hz2 rfl (by omega) sv S.length (S.flatMap DSt.cells) (by rfl) (own_drewN ((hsts.alloc (.cells C.toArray 3)).alloc _) _) ⟨wc.heap.size + 1, 0, none⟩ 1 1 [.slice (some ⟨ig, 0, none⟩) f.length ic, .slice (some ⟨wc.heap.size, 0, none⟩) 256 256, .bool mm] (by rfl) (by rfl) (news_two wc C _ 115 _) (by simp [Value.oneCell']) (by omega) (by simp only [maxLen]; omega) (by omega) (by simp; omega) (wc.heap.size + 2) (by simp) ?_
            intro gg cap w1 hown1 hgrow hat hlt
            have hw0 := (hgrow.cell_far ⟨bb, 0, none⟩ (lt_two hlb) (Ne.symm hsb)).trans (cell_two hb0)
            have hw1 := (hgrow.cell_far ⟨db, 1, none⟩ (lt_two hld) (Ne.symm hsd)).trans (cell_two hd1)
            have hw2 := (hgrow.frozen_far ⟨db, 1, none⟩ (lt_two hld) (Ne.symm hsd)).trans (frz_two hfd1 hld)
            refine hK _ _ (fun _ => ⟨hw0, hw1, hw2⟩) ?_
            clear hK K
            refine seqT_do rfl rfl fun K hK => ?_
            go_simp
            refine hK _ _ (fun h => absurd h (by decide)) ?_
            clear hK K
            refine seqT_do rfl rfl fun K hK => ?_
            go_simp
            refine hK _ _ (fun h => absurd h (by decide)) ?_
            clear hK K
            refine seqT_do rfl rfl fun K hK => ?_
            go_simp
            refine hK _ _ (fun h => absurd h (by decide)) ?_
            clear hK K
            unfold seqT
            go_wp2_with fail
            go_meet
            obtain ⟨-, -, -, -, -, hd2, -⟩ := HZ.out
            refine ⟨wc.heap.size, .slice (some ⟨gg, 0, none⟩) (S.length + 1) cap, ?_⟩
            rw [HC.out]
            exact state_laid hd2 hsd hgrow hown1 hat
          case rest =>
          obtain ⟨nb, sv', hdb3, hst3, hnb3, hnbge, hF3, hsv3⟩ := hcut
          clear hconv hlook hb0 hb1 hb2 hd0 hd1 hfd1 hsts hmk hsd hsb hi0
          obtain ⟨hf0e, ho1, hff1, hvv1, hr, hd2, hkg, hF2, hnone, hhas⟩ := HZ.out
          obtain ⟨hB2, htk⟩ := HT.out
          obtain ⟨hbb3, hprg3, hrow3, hnx3, hbuf3, hmap3, hk3, hi3⟩ := hd2.midway hF3
          have hB3 := hk3 _ _ hB2
          obtain ⟨gs, cps, hsv', hcs1, hcs2, -⟩ := own_cell hst3 (j := S.length * 3) (u := .slice (some ⟨ig, 0, none⟩) f.length ic) (states_at S _)
          subst hsv'
          have hconv : ∀ nq, (convert 92 9 (.slice (some ⟨kg, 0, none⟩) (8 * f.length) kc)).run Tryd.prog (wc.drewN nq) = .ok (.string (keyStr f)) (wc.drewN nq) := fun nq => conv_key (hB3.drewN nq) (by omega) htk
          have hb0 := hbb3.cell 0 rfl
          have hb1 := hbb3.cell 1 rfl
          have hb2 := hbb3.cell 2 rfl
          have hd0 := hdb3.cell 0 rfl
          have hd1 := hdb3.cell 1 rfl
          have HW := Lib.hid (And.intro hst3 (And.intro hbb3 (And.intro hdb3 (And.intro hprg3 (And.intro hrow3 (And.intro hnx3 (And.intro hbuf3 (And.intro hmap3 hi3))))))))
          have hmp := Lib.hid hmap3
          have hcl3 : cps ≤ maxLen := hcs2
          have HCL := Lib.hid hcl3
          have HNB := Lib.hid hnb3
          clear hst3 hbb3 hdb3 hprg3 hrow3 hnx3 hbuf3 hmap3 hk3 hi3 hcs2 hcl3 hd2 hB2 hB3 hnone hhas hF2 hkg hf0e ho1 hff1 hvv1 hr htk hnb3
          have e1 : IntKind.i64.wrap (((S.length + 1 : Nat) : Int) - 1) = ((S.length : Nat) : Int) := by rw [IntWalk.i64_in _ (by omega)]; omega
          go_wp2_with fail
          have hconv1 : (convert 92 9 (.slice (some ⟨kg, 0, none⟩) (8 * f.length) kc)).run Tryd.prog wc.drew = .ok (.string (keyStr f)) wc.drew := hconv 1
          clear hconv
          go_still_tail 10, (by kernel_rfl)
          change wpList _ _ _ _ _ wc.drew
          clear hconv1 e1
          refine wpList_mapUpdate_own _ rfl _ _ _ 109 rfl 9 3 keyedS Tryd.underlying109 (plainElem Tryd.prog 3) mb S.length D rfl hmp.out.drew (by simp only [maxLen]; omega) _ _ (keyLit f) rfl rfl (keyOf_key hfp) (.lit (.int .i64 (S.length : Int))) [] (plainElem_int Tryd.underlying3 (wf_small hSb)) ?_
          intro w3 hm3 hg3
          go_wp2_with fail
          go_ret2
          obtain ⟨hf0e, ho1, hff1, hvv1, hr, hd2, hkg, hF2, hnone, hhas⟩ := HZ.out
          obtain ⟨hst3, hbb3, hdb3, hprg3, hrow3, hnx3, hbuf3, hmap3, hi3⟩ := HW.out
          have hg : Fr (fun k => k = mb) wc w3 := Fr.grown (w1 := wc.drew) (Fr.refl (fun k => k = mb) wc).drew hg3 (fun k hk _ => by injection hk with hk; exact hk.symm)
          have hio := hi3 _ _ _ _ (own_fr ho1 hF2 (own_not_key hH1.out ho1))
          refine ⟨S.length, .slice none 0 0, .slice (some ⟨kg, 0, none⟩) (8 * f.length) kc, .slice (some ⟨gs, 0, none⟩) (S.length + 1) cps, S ++ [⟨f, .slice (some ⟨ig, 0, none⟩) f.length ic, nb, List.replicate 256 0, mm⟩], D.put (keyLit f) (.lit (.int .i64 (S.length : Int))), rfl, ?_, ?_, ?_, ?_, key_new_or hff1 hkg, ?_, (fun k hk => by simp [Value.ownBlock] at hk), ?_⟩
          · exact hd2.added List.length_replicate hF3 hg hm3 hst3 hdb3 HNB.out hnbge hio hnone hS1 HFX.out
          · exact ⟨⟨0, [], World.ownsRow_nil _ _ _ _⟩, fun s hs k hk e => by simp [Value.ownBlock] at e⟩
          · exact .inr (.inr ⟨by rw [hfg]; exact hf0e, rfl, fun i s h1 h2 => by rw [hfg]; exact hnone i s h1 h2, _, _, by rw [hfg, hmg]⟩)
          · exact (((cf_trans hff1 hF2).trans hF3 (fun i _ hi => hi.elim (fun e => .inr (.inl e)) (fun e => .inr (.inr (.inr (.inr (.inl e))))))).trans hg (fun i _ hi => .inr (.inr (.inl hi))))
          · intro k hk
            exact (hsv3 k hk).imp id (fun h => Nat.le_trans (Nat.le_trans hff1.size hF2.size) h)
          · intro x hx
            rcases List.mem_append.1 hx with hx | hx
            · exact .inl hx
            · simp only [List.mem_singleton] at hx
              subst hx
              exact .inr (Nat.le_trans (Nat.le_trans hff1.size hF2.size) hnbge)
end Go.Proofs.YtjeklnbfpehbeaaDoor

/- '(*dfaBuilder).runState' of package regexp: one step of a state by a byte: the state that comes of it is found or made, and written into the row. Condition: at most 20000 states. -/
namespace Go.Proofs.YtjeklnbfpehbeaaDoor
open Go.RowKit Go.Maps

theorem flat_at {S : List DSt} {i : Nat} {s : DSt} (h : S[i]? = some s) (j : Nat) (hj : j < 3) : (S.flatMap DSt.cells)[i * 3 + j]? = s.cells[j]? := by
  induction S generalizing i with
  | nil => simp at h
  | cons a S ih =>
    cases i with
    | zero =>
      simp at h; subst h
      rw [List.flatMap_cons, List.getElem?_append_left (by simp [DSt.cells]; omega)]
      simp
    | succ i =>
      simp at h
      rw [List.flatMap_cons, List.getElem?_append_right (by simp [DSt.cells]; omega)]
      have e : (i + 1) * 3 + j - a.cells.length = i * 3 + j := by simp [DSt.cells]; omega
      rw [e]
      exact ih h

/-- A state's row with one next state written. -/
def DSt.goto_ (s : DSt) (c ns : Nat) : DSt := { s with nx := s.nx.set c ns }
theorem flat_set {S : List DSt} {i c ns : Nat} {s : DSt} (h : S[i]? = some s) : (S.set i (s.goto_ c ns)).flatMap DSt.cells = S.flatMap DSt.cells := by
  induction S generalizing i with
  | nil => simp at h
  | cons a S ih =>
    cases i with
    | zero => simp at h; subst h; simp [DSt.goto_, DSt.cells]
    | succ i => simp at h; simp [ih h]

theorem DB.setnext {w : World} {bb db mb : Nat} {pv : Value} {p : List Ins} {B M : Nat} {kv sv : Value} {S : List DSt} {D : DataW Unit} {i c ns : Nat} {s : DSt} (h : DB w bb db mb pv p B M kv sv S D) (hs : S[i]? = some s) :
    DB (w.setCell ⟨s.nb, c, none⟩ (.int .i64 (ns : Int))) bb db mb pv p B M kv sv (S.set i (s.goto_ c ns)) D := by
  have hm := List.mem_of_getElem? hs
  obtain ⟨hn, hl, hB⟩ := h.next s hm
  have hF : Fr (fun k => k = s.nb) w (w.setCell ⟨s.nb, c, none⟩ (.int .i64 (ns : Int))) := Fr.setCell (F := fun k => k = s.nb) (p := ⟨s.nb, c, none⟩) (Fr.refl _ w) (fun _ => rfl) _
  have ne : ∀ {k : Nat} {cs : List Value} {t : TypeId}, Blk w k cs t → t ≠ 3 → ¬ (k = s.nb) := fun hk ht e => by subst e; exact ht (hk.inj hn).2
  have no : ∀ {base n : Nat} {e : TypeId} {size : Nat} {v : Value} {xs : List Value}, w.ownsRow base e size v n xs → e ≠ 3 → ∀ k, v.ownBlock = some k → ¬ (k = s.nb) := fun ho ht k hk e => by subst e; exact own_ne_blk ho hn ht hk
  have mem : ∀ x, x ∈ S.set i (s.goto_ c ns) → x = s.goto_ c ns ∨ ∃ j, j ≠ i ∧ S[j]? = some x := by
    intro x hx
    obtain ⟨j, hj⟩ := List.mem_iff_getElem?.1 hx
    by_cases e : j = i
    · subst e
      rw [List.getElem?_set_self (List.getElem?_eq_some_iff.1 hs).1] at hj
      injection hj with hj
      exact .inl hj.symm
    · rw [List.getElem?_set_ne (Ne.symm e)] at hj
      exact .inr ⟨j, e, hj⟩
  refine ⟨h.hb.fr hF (ne h.hb (by decide)), h.hd.fr hF (ne h.hd (by decide)), h.prg.fr hF (fun k hk => by subst hk; exact hB), ?_, ?_, ?_, buf_fr h.buf hF (fun k hk => by obtain ⟨c5, h5⟩ := buf_blk h.buf hk; exact ne h5 (by decide)), h.bufB, ?_, ?_, h.geb, h.ged, h.gem, h.BM, ?_, h.isMap⟩
  · rw [flat_set hs, List.length_set]
    exact own_fr h.sts hF (no h.sts (by decide))
  · intro x hx
    rcases mem x hx with rfl | ⟨j, hj, hx⟩
    · exact own_fr (h.row s hm) hF (no (h.row s hm) (by decide))
    · have hx' := List.mem_of_getElem? hx
      exact own_fr (h.row x hx') hF (no (h.row x hx') (by decide))
  · intro x hx
    rcases mem x hx with rfl | ⟨j, hj, hx⟩
    · refine ⟨?_, by simp [DSt.goto_, hl], hB⟩
      have := hn.set c (.int .i64 (ns : Int))
      rw [i64s_set] at this
      exact this
    · have hx' := List.mem_of_getElem? hx
      refine ⟨(h.next x hx').1.fr hF (fun e => ?_), (h.next x hx').2⟩
      have hap := h.apart
      rw [List.nodup_iff_pairwise_ne, List.pairwise_iff_getElem] at hap
      have hli := (List.getElem?_eq_some_iff.1 hs).1
      have hlj := (List.getElem?_eq_some_iff.1 hx).1
      have ei := (List.getElem?_eq_some_iff.1 hs).2
      have ej := (List.getElem?_eq_some_iff.1 hx).2
      rcases Nat.lt_or_ge i j with hij | hij
      · have := hap i j (by simpa using hli) (by simpa using hlj) hij
        simp [ei, ej] at this
        exact this e.symm
      · have := hap j i (by simpa using hlj) (by simpa using hli) (by omega)
        simp [ei, ej] at this
        exact this e
  · rw [List.length_set]
    refine map_fr h.map hF (fun e => ?_)
    exact map_ne_blk h.map hn e.symm
  · intro l hl'
    have key : ∀ (j : Nat) (x : DSt), (S.set i (s.goto_ c ns))[j]? = some x → ∃ y, S[j]? = some y ∧ y.l = x.l := by
      intro j x hx
      by_cases e : j = i
      · subst e
        rw [List.getElem?_set_self (List.getElem?_eq_some_iff.1 hs).1] at hx
        injection hx with hx
        exact ⟨s, hs, by rw [← hx]; rfl⟩
      · rw [List.getElem?_set_ne (Ne.symm e)] at hx
        exact ⟨x, hx, rfl⟩
    rcases h.cache l hl' with ⟨j, x, h1, h2, h3, h4⟩ | ⟨h1, h2⟩
    · by_cases e : j = i
      · subst e
        rw [hs] at h2; injection h2 with h2; subst h2
        exact .inl ⟨j, s.goto_ c ns, h1, by rw [List.getElem?_set_self (List.getElem?_eq_some_iff.1 hs).1], h3, h4⟩
      · exact .inl ⟨j, x, h1, by rw [List.getElem?_set_ne (Ne.symm e)]; exact h2, h3, h4⟩
    · refine .inr ⟨fun j x hj hx => ?_, h2⟩
      obtain ⟨y, hy, e⟩ := key j x hx
      rw [← e]
      exact h1 j y hj hy
  · have : (S.set i (s.goto_ c ns)).map DSt.nb = S.map DSt.nb := by
      apply List.ext_getElem?
      intro j
      rw [List.getElem?_map, List.getElem?_map]
      by_cases e : j = i
      · subst e
        rw [List.getElem?_set_self (List.getElem?_eq_some_iff.1 hs).1, hs]; rfl
      · rw [List.getElem?_set_ne (Ne.symm e)]
    rw [this]
    exact h.apart

/-- What a set lies in is not written by 'cachedState'. -/
theorem set_not_cf {w : World} {bb db mb : Nat} {pv : Value} {p : List Ins} {B M : Nat} {kv sv r : Value} {S : List DSt} {D : DataW Unit} {b bd bs n : Nat} {l : List Nat} (h : DB w bb db mb pv p B M kv sv S D) (hs : SS w b bd bs n l) (hr : Reuse w M S r) (m2 : bd < M) (m3 : bs < M) :
    ¬ CF bb db mb kv sv r b ∧ ¬ CF bb db mb kv sv r bd ∧ ¬ CF bb db mb kv sv r bs := by
  obtain ⟨cd, _, d2, _⟩ := hs.dense
  obtain ⟨cs, _, s2, _⟩ := hs.sparse
  obtain ⟨rn, rxs, ho⟩ := hr.own
  have key : ∀ {k : Nat} {cs' : List Value} {t : TypeId}, Blk w k cs' t → t ≠ 111 → t ≠ 108 → t ≠ 5 → t ≠ 115 → r.ownBlock ≠ some k → ¬ CF bb db mb kv sv r k := by
    rintro k cs' t hk h1 h2 h3 h4 h5 (rfl | rfl | rfl | e | e | e)
    · exact h1 (hk.inj h.hb).2
    · exact h2 (hk.inj h.hd).2
    · exact map_ne_blk h.map hk rfl
    · obtain ⟨c5, hc5⟩ := buf_blk h.buf e
      exact h3 (hk.inj hc5).2
    · exact own_ne_blk h.sts hk (Ne.symm h4) e
    · exact h5 e
  refine ⟨key hs.head (by decide) (by decide) (by decide) (by decide) (own_ne_blk ho hs.head (by decide)), key d2 (by decide) (by decide) (by decide) (by decide) ?_, key s2 (by decide) (by decide) (by decide) (by decide) ?_⟩
  · intro e; have := (own_lt' ho e).1; omega
  · intro e; have := (own_lt' ho e).1; omega
end Go.Proofs.YtjeklnbfpehbeaaDoor

/- The walk of '(*dfaBuilder).runState' of package regexp. Condition: at most 20000 states. -/
namespace Go.Proofs.YtjeklnbfpehbeaaDoor
open Go.RowKit Go.Maps

theorem cout_at {S S1 : List DSt} {f : List Nat} {m : Bool} {ns i : Nat} {s : DSt} (h : COut S S1 f m ns) (hs : S[i]? = some s) : S1[i]? = some s := by
  rcases h with ⟨_, _, rfl⟩ | ⟨_, rfl, _⟩ | ⟨_, _, _, iv, nb, rfl⟩
  · exact hs
  · exact hs
  · rw [List.getElem?_append_left (List.getElem?_eq_some_iff.1 hs).1]; exact hs

/-- What 'runState' may write. -/
def RF (a ad az b bd bs bb db mb nb : Nat) (kv sv r : Value) : Nat → Prop := fun k => SSf a ad az k ∨ SSf b bd bs k ∨ CF bb db mb kv sv r k ∨ k = nb

theorem ss_ne_blk {w : World} {b bd bs n k : Nat} {l : List Nat} {cs : List Value} {t : TypeId} (h : SS w b bd bs n l) (hk : Blk w k cs t) (h1 : t ≠ 142) (h2 : t ≠ 46) : b ≠ k ∧ bd ≠ k ∧ bs ≠ k := by
  obtain ⟨cd, _, d2, _⟩ := h.dense
  obtain ⟨cz, _, s2, _⟩ := h.sparse
  exact ⟨blk_ne h.head hk (Ne.symm h1), blk_ne d2 hk (Ne.symm h2), blk_ne s2 hk (Ne.symm h2)⟩
theorem set_nb {S S1 : List DSt} {s c ns n0 n1 : Nat} {st : DSt} (hm : st ∈ S) (h0 : n0 ≤ n1) (h : ∀ x, x ∈ S1 → x ∈ S ∨ n1 ≤ x.nb) : ∀ x, x ∈ S1.set s (st.goto_ c ns) → (∃ y, y ∈ S ∧ y.nb = x.nb) ∨ n0 ≤ x.nb := by
  intro x hx
  rcases List.mem_or_eq_of_mem_set hx with hx | rfl
  · exact (h x hx).imp (fun h => ⟨x, h, rfl⟩) (Nat.le_trans h0)
  · exact .inl ⟨st, hm, rfl⟩
theorem Reuse.set_fr {w w' : World} {M : Nat} {S : List DSt} {r : Value} {b bd bs n : Nat} {l : List Nat} (hr : Reuse w M S r) (hs : SS w b bd bs n l) (hf : Fr (SSf b bd bs) w w') (m2 : bd < M) (m3 : bs < M) : Reuse w' M S r := by
  obtain ⟨rn, rxs, ho⟩ := hr.own
  refine ⟨⟨rn, rxs, own_fr ho hf ?_⟩, hr.apart⟩
  rintro k hk (rfl | rfl | rfl)
  · exact own_ne_blk ho hs.head (by decide) hk
  · have := (own_lt' ho hk).1; omega
  · have := (own_lt' ho hk).1; omega

set_option maxRecDepth 100000 in
set_option maxHeartbeats 4000000 in
theorem runstate_calls {bb db mb : Nat} {pv : Value} {p : List Ins} {B M : Nat} {kv sv r : Value} {S : List DSt} {D : DataW Unit} {a ad az b bd bs : Nat} {la lb : List Nat} (w : World)
    (h : DB w bb db mb pv p B M kv sv S D) (ha : SS w a ad az p.length la) (hb : SS w b bd bs p.length lb) (hr : Reuse w M S r) (g1 : B ≤ b) (g2 : B ≤ bd) (g3 : B ≤ bs) (g4 : B ≤ a) (g5 : B ≤ ad) (g6 : B ≤ az)
    (m2 : bd < M) (m3 : bs < M) (m5 : ad < M) (m6 : az < M) (hM : M ≤ w.heap.size) (hS1 : 1 ≤ S.length) (hSb : S.length ≤ 20000) (hab : ∀ k, SSf a ad az k → ¬ SSf b bd bs k)
    (s : Nat) (st : DSt) (hst : S[s]? = some st) (hl1 : 1 ≤ st.l.length) (hnd : st.l.Nodup) (hlt : ∀ x, x ∈ st.l → x < p.length) (c : Nat) (hc : c < 256) :
    Calls Tryd.prog 44 #[.pointer (some ⟨bb, 0, none⟩), .pointer (some ⟨a, 0, none⟩), .pointer (some ⟨b, 0, none⟩), .int .i64 (s : Int), .int .u8 (c : Int), r] w fun e w' =>
      ∃ (ns : Nat) (r' kv' sv' : Value) (S1 : List DSt) (D' : DataW Unit) (la' lb' : List Nat), e = .returned (.tuple #[.int .i64 (ns : Int), r']) ∧ DB w' bb db mb pv p B M kv' sv' (S1.set s (st.goto_ c ns)) D' ∧
        SS w' a ad az p.length la' ∧ SS w' b bd bs p.length lb' ∧ Reuse w' M (S1.set s (st.goto_ c ns)) r' ∧ StepOk p st.l c lb' ∧ COut S S1 (lb'.filter (rm p)) (lb'.any (mt p)) ns ∧ Fr (RF a ad az b bd bs bb db mb st.nb kv sv r) w w' ∧
        (∀ k, kv'.ownBlock = some k → kv.ownBlock = some k ∨ w.heap.size ≤ k) ∧ (∀ k, sv'.ownBlock = some k → sv.ownBlock = some k ∨ w.heap.size ≤ k) ∧ (∀ k, r'.ownBlock = some k → r.ownBlock = some k ∨ w.heap.size ≤ k) ∧ (∀ x, x ∈ S1.set s (st.goto_ c ns) → (∃ y, y ∈ S ∧ y.nb = x.nb) ∨ w.heap.size ≤ x.nb) := by
  have hsl : s < S.length := (List.getElem?_eq_some_iff.1 hst).1
  have hmem := List.mem_of_getElem? hst
  have hclear := set_clear ha
  go_enter Tryd.func44, Tryd.ntmps44
  go_wp2_with fail
  refine hclear.mono ?_
  rintro e w1 ⟨rfl, ha1, hF1⟩
  have h1 := h.set_fr ha hF1 g4 g5 g6 m5 m6
  obtain ⟨sg, sc, hsv, hsc, hscm, hc0, -⟩ := own_cell h1.sts (flat_at hst 0 (by decide))
  obtain ⟨rn, rxs, hrown⟩ := hr.own
  obtain ⟨A0, rc0, rfl, -⟩ := own_form hrown
  have hrow := h1.row st hmem
  have hln : st.l.length ≤ p.length := length_le_of_nodup_lt _ _ hnd hlt
  have hpn := h.prg.wf.small
  have hb0 := h1.hb.cell 0 rfl
  have hd1 := h1.hd.cell 1 rfl
  subst hsv
  simp only [Nat.add_zero] at hc0
  have HA := Lib.hid (And.intro h (And.intro ha (And.intro hb (And.intro hr (And.intro h1 (And.intro ha1 hF1))))))
  obtain ⟨ig, ic, hiv, hic, hicm, -⟩ := own_cell hrow (j := 0) (u := .int .u64 ((st.l.getD 0 0 : Nat) : Int)) (by simp only [u64s, List.getElem?_map, List.getD_eq_getElem?_getD]; rw [List.getElem?_eq_getElem (by omega)]; rfl)
  have hread : ∀ (wr : World), Fr (SSf a ad az) w wr → ∀ (i x : Nat), st.l[i]? = some x → wr.cell? ⟨ig, i, none⟩ = some (.int .u64 (x : Int)) := by
    intro wr hF i x hx
    have hr2 := (h.set_fr ha hF g4 g5 g6 m5 m6).row st hmem
    rw [hiv] at hr2
    obtain ⟨g', c', he, _, _, hc', _⟩ := own_cell hr2 (u64s_at hx)
    simp at he
    obtain ⟨rfl, _⟩ := he
    exact hc'
  rw [hiv] at hc0
  have HR := Lib.hid hread
  have HV := Lib.hid hiv
  clear h ha hb hr h1 ha1 hF1 hclear hrown hscm hrow hread hicm hiv
  go_wp2_with fail
  go_loopg [31] (st.l.length + 1) (fun g i wr => ∃ k : Nat, k ≤ st.l.length ∧ g = st.l.length - k + 1 ∧ i = .int .i64 (k : Int) ∧ SS wr a ad az p.length (st.l.take k) ∧ Fr (SSf a ad az) w wr)
  case atStart => exact ⟨0, Nat.zero_le _, by omega, rfl, by simpa using HA.out.2.2.2.2.2.1, HA.out.2.2.2.2.2.2⟩
  case round =>
    obtain ⟨k, hk, hg, rfl, hs2, hF2⟩ := hrel
    subst hg
    by_cases hlt2 : k < st.l.length
    · obtain ⟨x, hx⟩ : ∃ x, st.l[k]? = some x := ⟨st.l[k], by simp [hlt2]⟩
      have hcx := HR.out wr hF2 k x hx
      have hnot : x ∉ st.l.take k := by
        intro hm
        obtain ⟨j, hj⟩ := List.mem_iff_getElem?.1 hm
        have hjk : j < k := by
          have := (List.getElem?_eq_some_iff.1 hj).1
          simp at this; omega
        rw [List.getElem?_take_of_lt hjk] at hj
        rw [List.nodup_iff_pairwise_ne, List.pairwise_iff_getElem] at hnd
        have := hnd j k (by omega) hlt2 hjk
        rw [List.getElem?_eq_getElem (by omega)] at hj hx
        injection hj with hj; injection hx with hx
        exact this (hj.trans hx.symm)
      have hadd := set_add hs2 x (hlt x (List.mem_of_getElem? hx)) hnot
      have HX := Lib.hid (And.intro hx (And.intro hs2 hF2))
      clear hx hs2 hF2 hnot hnd hlt
      go_wp2_with fail
      refine hadd.mono ?_
      rintro e w2 ⟨rfl, hs3, hF3⟩
      obtain ⟨hx, hs2, hF2⟩ := HX.out
      have hs3' : SS w2 a ad az p.length (st.l.take (k + 1)) := by rw [take_snoc_getElem? hx]; exact hs3
      clear hadd hcx hs3 hx
      go_wp2_with fail
      go_roundg (st.l.length - (k + 1) + 1)
      case measure => omega
      case rel => exact ⟨k + 1, by omega, rfl, by simp, hs3', hF2.trans hF3 (fun _ _ h => h)⟩
    · obtain rfl : k = st.l.length := by omega
      rw [List.take_length] at hs2
      obtain ⟨h, ha, hb, hr, -⟩ := HA.out
      have h2 := h.set_fr ha hF2 g4 g5 g6 m5 m6
      have hb2 := hb.fr hF2 (fun h => hab _ h (.inl rfl)) (fun h => hab _ h (.inr (.inl rfl))) (fun h => hab _ h (.inr (.inr rfl)))
      have hne : ¬ SSf b bd bs db := by
        obtain ⟨cd, _, d2, _⟩ := hb2.dense
        obtain ⟨cs, _, s2, _⟩ := hb2.sparse
        rintro (e | e | e)
        · exact blk_ne h2.hd hb2.head (by decide) e
        · exact blk_ne h2.hd d2 (by decide) e
        · exact blk_ne h2.hd s2 (by decide) e
      have hrun := run_calls (sv := .slice (some ⟨sg, 0, none⟩) S.length sc) g1 g2 g3 hne (hab a (.inl rfl)) (hab ad (.inr (.inl rfl))) (hab az (.inr (.inr rfl))) wr st.l lb c hc hs2 hb2 h2.prg h2.hd
      have hb0' := h2.hb.cell 0 rfl
      have H2 := Lib.hid (And.intro h2 (And.intro hs2 (And.intro hb2 (And.intro hF2 hr))))
      clear h ha hb hr h2 hb2 hs2 hF2 hnd hlt hb0 hd1 hc0
      go_wp2_with fail
      refine hrun.mono ?_
      rintro e w3 ⟨mb3, lb3, rfl, hb3, hst3, hF3⟩
      obtain ⟨h2, hs2, hb2, hF2, hr⟩ := H2.out
      have h3 := h2.set_fr hb2 hF3 g1 g2 g3 m2 m3
      have ha3 := hs2.fr hF3 (hab a (.inl rfl)) (hab ad (.inr (.inl rfl))) (hab az (.inr (.inr rfl)))
      have hr3 := (hr.set_fr (HA.out.2.1) hF2 m5 m6).set_fr hb2 hF3 m2 m3
      have hM3 : M ≤ w3.heap.size := Nat.le_trans hM (Nat.le_trans hF2.size hF3.size)
      have hcach := cached_calls w3 h3 hb3 hr3 g1 g2 g3 m2 m3 hM3 hS1 hSb
      have H3 := Lib.hid (And.intro h3 (And.intro ha3 (And.intro hb3 (And.intro hst3 (And.intro hF3 (And.intro hF2 hr3))))))
      clear h2 hs2 hb2 hF2 hr h3 ha3 hb3 hst3 hF3 hr3 hrun hb0'
      go_wp2_with fail
      refine hcach.mono ?_
      rintro e w4 ⟨ns, r', kv', sv', S1, D', rfl, h4, hr4, hout, hF4, q1, q2, q3, q4⟩
      obtain ⟨h3, ha3, hb3, hst3, hF3, hF2, hr3⟩ := H3.out
      have hst4 := cout_at hout hst
      have hsl4 : s < S1.length := (List.getElem?_eq_some_iff.1 hst4).1
      obtain ⟨n1, n2, n3⟩ := set_not_cf h3 hb3 hr3 m2 m3
      obtain ⟨n4, n5, n6⟩ := set_not_cf h3 ha3 hr3 m5 m6
      have hb4 := hb3.fr hF4 n1 n2 n3
      have ha4 := ha3.fr hF4 n4 n5 n6
      obtain ⟨sg4, sc4, hsv4, hsc4, -, hc4, -⟩ := own_cell h4.sts (flat_at hst4 1 (by decide))
      have hnx4 := h4.next st (List.mem_of_getElem? hst4)
      have hcc := hnx4.1.cell c (i64s_at (x := st.nx.getD c 0) (by rw [List.getD_eq_getElem?_getD, List.getElem?_eq_getElem (by omega)]; rfl))
      have hcf := hnx4.1.frz c
      have hb0 := h4.hb.cell 0 rfl
      have hd1 := h4.hd.cell 1 rfl
      have hset := h4.setnext (c := c) (ns := ns) hst4
      have hFn : Fr (RF a ad az b bd bs bb db mb st.nb kv (.slice (some ⟨sg, 0, none⟩) S.length sc) (.slice A0 rn rc0)) w (w4.setCell ⟨st.nb, c, none⟩ (.int .i64 (ns : Int))) :=
        Fr.setCell (p := ⟨st.nb, c, none⟩) (((hF2.mono (G := RF a ad az b bd bs bb db mb st.nb kv (.slice (some ⟨sg, 0, none⟩) S.length sc) (.slice A0 rn rc0)) (fun _ _ h => .inl h)).trans hF3 (fun _ _ h => .inr (.inl h))).trans hF4 (fun _ _ h => .inr (.inr (.inl h)))) (fun _ => .inr (.inr (.inr rfl))) _
      have nnb : ∀ {k : Nat} {cs' : List Value} {t : TypeId}, Blk w4 k cs' t → t ≠ 3 → k ≠ st.nb := fun hk ht => blk_ne hk hnx4.1 ht
      have hFs : Fr (fun k => k = st.nb) w4 (w4.setCell ⟨st.nb, c, none⟩ (.int .i64 (ns : Int))) := Fr.setCell (F := fun k => k = st.nb) (p := ⟨st.nb, c, none⟩) (Fr.refl _ w4) (fun _ => rfl) _
      have ha5 := ha4.fr hFs (ss_ne_blk ha4 hnx4.1 (by decide) (by decide)).1 (ss_ne_blk ha4 hnx4.1 (by decide) (by decide)).2.1 (ss_ne_blk ha4 hnx4.1 (by decide) (by decide)).2.2
      have hb5 := hb4.fr hFs (ss_ne_blk hb4 hnx4.1 (by decide) (by decide)).1 (ss_ne_blk hb4 hnx4.1 (by decide) (by decide)).2.1 (ss_ne_blk hb4 hnx4.1 (by decide) (by decide)).2.2
      have hr5 : Reuse (w4.setCell ⟨st.nb, c, none⟩ (.int .i64 (ns : Int))) M (S1.set s (st.goto_ c ns)) r' := by
        obtain ⟨rn', rxs', ho'⟩ := hr4.own
        refine ⟨⟨rn', rxs', own_fr ho' hFs (fun k hk e => ?_)⟩, fun x hx k hk => ?_⟩
        · subst e; exact own_ne_blk ho' hnx4.1 (by decide) hk
        · obtain ⟨j, hj⟩ := List.mem_iff_getElem?.1 hx
          by_cases e : j = s
          · subst e
            rw [List.getElem?_set_self hsl4] at hj
            injection hj with hj
            subst hj
            exact hr4.apart st (List.mem_of_getElem? hst4) k hk
          · rw [List.getElem?_set_ne (Ne.symm e)] at hj
            exact hr4.apart x (List.mem_of_getElem? hj) k hk
      have H5 := Lib.hid (And.intro hset (And.intro ha5 (And.intro hb5 (And.intro hr5 (And.intro hst3 (And.intro hout (And.intro hFn (And.intro q1 (And.intro q2 (And.intro q3 q4))))))))))
      have Q1 := Lib.hid (Nat.le_trans hF2.size hF3.size)
      subst hsv4
      clear hset ha5 hb5 hr5 hst3 hout hFn q1 q2 q3 q4 nnb hFs h4 hr4 hF4 hb4 ha4 hnx4 h3 ha3 hb3 hF3 hF2 hr3 hcach n1 n2 n3 n4 n5 n6 hst4
      go_wp2_with fail
      go_ret2
      obtain ⟨hset, ha5, hb5, hr5, hst3, hout, hFn, q1, q2, q3, q4⟩ := H5.out
      exact ⟨ns, r', kv', _, S1, D', _, _, rfl, hset, ha5, hb5, hr5, hst3, hout, hFn, fun k hk => (q1 k hk).imp id (Nat.le_trans Q1.out), fun k hk => (q2 k hk).imp id (Nat.le_trans Q1.out), fun k hk => (q3 k hk).imp id (Nat.le_trans Q1.out), set_nb hmem Q1.out q4⟩
end Go.Proofs.YtjeklnbfpehbeaaDoor

/- The stack of package regexp's builder: Push and Pop of numbers. Condition: it stays below 2^40. -/
namespace Go.Proofs.YtjeklnbfpehbeaaDoor
open Go.RowKit

set_option maxHeartbeats 400000 in
theorem push_calls {w : World} {base : Nat} {v : Value} {l : List Nat} (x : Nat) (h : w.ownsRow base 3 1 v l.length (i64s l)) (hb : base ≤ w.heap.size) (hl : l.length ≤ 1000000000) :
    Calls Tryd.prog 45 #[v, .int .i64 (x : Int)] w fun e w' => ∃ v', e = .returned v' ∧ w'.ownsRow base 3 1 v' (l ++ [x]).length (i64s (l ++ [x])) ∧ Fr (fun k => v.ownBlock = some k) w w' ∧ (v'.ownBlock = v.ownBlock ∨ ∃ k, v'.ownBlock = some k ∧ w.heap.size ≤ k) := by
  go_enter Tryd.func45, Tryd.ntmps45
  go_wp2_with (at_builtin; refine app1 _ rfl _ _ 121 rfl base 3 (.int .i64 0) 1 8 Tryd.underlying121 (by kernel_rfl) rfl (by decide) v l.length (i64s l) [.int .i64 (x : Int)] rfl rfl h rfl (by simp [Value.oneCell']) (by omega) (by decide) hb ?_; intro v2 w2 ho2 hf2 hb2)
  go_ret
  exact ⟨v2, rfl, by simpa [i64s] using ho2, hf2, hb2⟩

theorem pop_nil {w : World} {base : Nat} {v : Value} (h : w.ownsRow base 3 1 v 0 []) : Calls Tryd.prog 43 #[v] w fun e w' => e = .returned (.tuple #[v, .int .i64 0]) ∧ w = w' := by
  have hv : ∃ A c, v = .slice A 0 c := by
    rcases h.2 with ⟨rfl, _⟩ | ⟨g, cap, cur, rfl, _⟩
    · exact ⟨none, 0, rfl⟩
    · exact ⟨_, cap, rfl⟩
  obtain ⟨A, c, rfl⟩ := hv
  clear h
  go_enter Tryd.func43, Tryd.ntmps43
  go_wp2
  go_ret2
  exact ⟨rfl, rfl⟩

theorem own_shorter {w : World} {base n c g m : Nat} {e : TypeId} {xs : List Value} (h : w.ownsRow base e 1 (.slice (some ⟨g, 0, none⟩) n c) n xs) (hm : m ≤ n) : w.ownsRow base e 1 (.slice (some ⟨g, 0, none⟩) m c) m (xs.take m) := by
  rcases h.2 with ⟨h', _⟩ | ⟨g', cap', cur, h', h1, h2, h3, h4, h5, h6⟩
  · cases h'
  · simp at h'
    obtain ⟨rfl, rfl⟩ := h'
    refine ⟨by rw [List.length_take, h.1]; omega, .inr ⟨g, c, cur, rfl, h1, h2, by omega, h4, h5, ?_⟩⟩
    rw [← h6, List.take_take, Nat.mul_one, Nat.mul_one, Nat.min_eq_left hm]

set_option maxHeartbeats 1000000 in
theorem pop_calls {w : World} {base : Nat} {v : Value} {l : List Nat} {x : Nat} (h : w.ownsRow base 3 1 v (l ++ [x]).length (i64s (l ++ [x]))) (hl : l.length ≤ 1000000000) :
    Calls Tryd.prog 43 #[v] w fun e w' => ∃ v', e = .returned (.tuple #[v', .int .i64 (x : Int)]) ∧ w'.ownsRow base 3 1 v' l.length (i64s l) ∧ (∃ n, w' = w.drewN n) ∧ v'.ownBlock = v.ownBlock := by
  obtain ⟨g, c, rfl, hc, hcm, hcell, -⟩ := own_cell h (j := l.length) (u := .int .i64 (x : Int)) (i64s_at (by simp))
  have hn : (l ++ [x]).length = l.length + 1 := by simp
  have hc' : l.length + 1 ≤ c := by rw [hn] at hc; exact hc
  rw [hn] at h ⊢
  clear hc
  have ho : w.ownsRow base 3 1 (.slice (some ⟨g, 0, none⟩) l.length c) l.length (i64s l) := by
    have := own_shorter h (m := l.length) (by omega)
    simpa [i64s] using this
  have HO := Lib.hid ho
  have HC := Lib.hid hcm
  clear h ho hn hcm
  generalize l.length = n at *
  have e1 : IntKind.i64.wrap (n : Int) = (n : Int) := IntWalk.i64_in _ (by omega)
  have e4 : (n : Int) ≤ (c : Int) := by omega
  have e6 : (n : Int) < (n : Int) + 1 := by omega
  have e7 : (0 : Int) ≤ (n : Int) := by omega
  go_enter Tryd.func43, Tryd.ntmps43
  go_wp2_with fail
  go_quiet (fail)
  go_wp2_with fail
  go_ret2
  exact ⟨_, rfl, HO.out, ⟨_, rfl⟩, rfl⟩
end Go.Proofs.YtjeklnbfpehbeaaDoor

/- 'newDfaBuilder' of package regexp: a builder whose only state is the dead one. Condition: the program is a right one. -/
namespace Go.Proofs.YtjeklnbfpehbeaaDoor
open Go.RowKit Go.Maps

theorem run_mk_states (W : World) : ∃ X : Array Value, X.size = 48 ∧ (Instr.makeSlice 106 (.int .i64 0) (.int .i64 16)).run Tryd.prog W = .ok (.slice (some ⟨W.heap.size, 0, none⟩) 0 16) (W.alloc (.cells X 115)) := by
  obtain ⟨i0, hi, hz0, hz1, hz2⟩ := info_parts info115
  have h := run_make (P := Tryd.prog) W 106 115 i0 _ Tryd.underlying106 hi hz0 .i64 .i64 0 16 (by decide) (by decide) (by rw [hz2]; decide) (by decide)
  rw [hz1] at h
  exact ⟨_, by simp [size_madeCells], h⟩

/-- The dead state. -/
def dead (nb : Nat) : DSt := ⟨[], .slice none 0 0, nb, List.replicate 256 0, false⟩

theorem cache_dead (nb : Nat) : CacheOk (.map []) [dead nb] := by
  intro l _
  refine .inr ⟨fun i s h1 h2 => ?_, rfl⟩
  rw [List.getElem?_eq_none (by simp; omega)] at h2
  cases h2

theorem builder_laid (w : World) (pa n : Nat) {cp : Nat} (Y : Array Value) (hY : Y.size = 48) :
    Blk ((((w.alloc (.cells Y 115)).alloc (.cells #[.slice (some ⟨pa, 0, none⟩) n cp, .slice (some ⟨w.heap.size, 0, none⟩) 0 16] 108)).alloc (.map #[] 0)).alloc (.cells #[.pointer (some ⟨w.heap.size + 1, 0, none⟩), .map (some (w.heap.size + 1 + 1)), .slice none 0 0] 111)) (w.heap.size + 3) [.pointer (some ⟨w.heap.size + 1, 0, none⟩), .map (some (w.heap.size + 2)), .slice none 0 0] 111 ∧
    (∃ sv, Blk ((((w.alloc (.cells Y 115)).alloc (.cells #[.slice (some ⟨pa, 0, none⟩) n cp, .slice (some ⟨w.heap.size, 0, none⟩) 0 16] 108)).alloc (.map #[] 0)).alloc (.cells #[.pointer (some ⟨w.heap.size + 1, 0, none⟩), .map (some (w.heap.size + 1 + 1)), .slice none 0 0] 111)) (w.heap.size + 1) [.slice (some ⟨pa, 0, none⟩) n cp, sv] 108 ∧
      ((((w.alloc (.cells Y 115)).alloc (.cells #[.slice (some ⟨pa, 0, none⟩) n cp, .slice (some ⟨w.heap.size, 0, none⟩) 0 16] 108)).alloc (.map #[] 0)).alloc (.cells #[.pointer (some ⟨w.heap.size + 1, 0, none⟩), .map (some (w.heap.size + 1 + 1)), .slice none 0 0] 111)).ownsRow w.heap.size 115 3 sv 0 []) ∧
    ((((w.alloc (.cells Y 115)).alloc (.cells #[.slice (some ⟨pa, 0, none⟩) n cp, .slice (some ⟨w.heap.size, 0, none⟩) 0 16] 108)).alloc (.map #[] 0)).alloc (.cells #[.pointer (some ⟨w.heap.size + 1, 0, none⟩), .map (some (w.heap.size + 1 + 1)), .slice none 0 0] 111)).ownsMap Tryd.prog 9 (plainElem Tryd.prog 3) (w.heap.size + 2) 0 (DataW.map (H := Unit) []) ∧
    Fr (fun _ => False) w ((((w.alloc (.cells Y 115)).alloc (.cells #[.slice (some ⟨pa, 0, none⟩) n cp, .slice (some ⟨w.heap.size, 0, none⟩) 0 16] 108)).alloc (.map #[] 0)).alloc (.cells #[.pointer (some ⟨w.heap.size + 1, 0, none⟩), .map (some (w.heap.size + 1 + 1)), .slice none 0 0] 111)) ∧
    ((((w.alloc (.cells Y 115)).alloc (.cells #[.slice (some ⟨pa, 0, none⟩) n cp, .slice (some ⟨w.heap.size, 0, none⟩) 0 16] 108)).alloc (.map #[] 0)).alloc (.cells #[.pointer (some ⟨w.heap.size + 1, 0, none⟩), .map (some (w.heap.size + 1 + 1)), .slice none 0 0] 111)).heap.size = w.heap.size + 4 := by
  refine ⟨Blk.newAt _ [_, _, _] _ _ (by simp), ⟨_, ((Blk.newAt (w.alloc (.cells Y 115)) [_, _] 108 _ (by simp)).alloc _).alloc _, ?_⟩, ?_, (((((Fr.refl _ w).alloc _).alloc _).alloc _).alloc _), by simp⟩
  · exact (((World.ownsRow_made (base := w.heap.size) (e := 115) (size := 3) w Y 16 (Nat.le_refl _) (by simp only [maxLen]; omega) (by rw [hY])).alloc _).alloc _).alloc _
  · have := (World.ownsMap_made ((w.alloc (.cells Y 115)).alloc (.cells #[.slice (some ⟨pa, 0, none⟩) n cp, .slice (some ⟨w.heap.size, 0, none⟩) 0 16] 108)) Tryd.prog 9 (plainElem (H := Unit) Tryd.prog 3)).alloc (.cells #[.pointer (some ⟨w.heap.size + 1, 0, none⟩), .map (some (w.heap.size + 1 + 1)), .slice none 0 0] 111)
    simpa using this

theorem builder_done {w wc w1 : World} {pv sv : Value} {p : List Ins} {cs : List Value} {M gg cap m : Nat} (hp : Prg w pv p w.heap.size) (hM : w.heap.size ≤ M) (hbb : Blk wc (w.heap.size + 3) [.pointer (some ⟨w.heap.size + 1, 0, none⟩), .map (some (w.heap.size + 2)), .slice none 0 0] 111)
    (hdb : Blk wc (w.heap.size + 1) [pv, sv] 108) (hst : wc.ownsRow w.heap.size 115 3 sv 0 []) (hmap : wc.ownsMap Tryd.prog 9 (plainElem Tryd.prog 3) (w.heap.size + 2) 0 (DataW.map (H := Unit) [])) (hF : Fr (fun _ => False) w wc) (hsd : sv.ownBlock ≠ some (w.heap.size + 1))
    (hg : (((wc.drewN m).alloc (.cells (i64s (List.replicate 256 0)).toArray 3)).alloc (.cells cs.toArray 115)).grownBy w1 sv.ownBlock) (ho : w1.ownsRow w.heap.size 115 3 (.slice (some ⟨gg, 0, none⟩) 1 cap) 1 ([] ++ [.slice none 0 0, .slice (some ⟨wc.heap.size, 0, none⟩) 256 256, .bool false])) (hat : sv.ownBlock = some gg ∨ gg = wc.heap.size + 2) :
    DB (w1.setCell ⟨w.heap.size + 1, 1, none⟩ (.slice (some ⟨gg, 0, none⟩) 1 cap)) (w.heap.size + 3) (w.heap.size + 1) (w.heap.size + 2) pv p w.heap.size M (.slice none 0 0) (.slice (some ⟨gg, 0, none⟩) 1 cap) [dead wc.heap.size] (.map []) ∧
      Fr (fun _ => False) w (w1.setCell ⟨w.heap.size + 1, 1, none⟩ (.slice (some ⟨gg, 0, none⟩) 1 cap)) := by
  have hF0 : Fr (fun _ => False) wc (((wc.drewN m).alloc (.cells (i64s (List.replicate 256 0)).toArray 3)).alloc (.cells cs.toArray 115)) := (((Fr.refl _ wc).drewN m).alloc _).alloc _
  have hF1 : Fr (fun k => sv.ownBlock = some k) wc w1 := (hF0.mono (G := fun k => sv.ownBlock = some k) (fun _ _ h => h.elim)).grown hg (fun k hk _ => hk)
  have hdlt := hdb.lt
  have hd1 := hdb.fr hF1 hsd
  have hsb : sv.ownBlock ≠ some (w.heap.size + 3) := own_ne_blk hst hbb (by decide)
  have hN : Blk w1 wc.heap.size (i64s (List.replicate 256 0)) 3 := by
    have h1 : Blk (((wc.drewN m).alloc (.cells (i64s (List.replicate 256 0)).toArray 3)).alloc (.cells cs.toArray 115)) wc.heap.size (i64s (List.replicate 256 0)) 3 := (Blk.new (wc.drewN m) _ 3).alloc _
    have h2 : Fr (fun k => sv.ownBlock = some k) (((wc.drewN m).alloc (.cells (i64s (List.replicate 256 0)).toArray 3)).alloc (.cells cs.toArray 115)) w1 := (Fr.refl _ _).grown hg (fun k hk _ => hk)
    refine h1.fr h2 (fun he => ?_)
    have := (own_lt' hst he).2
    omega
  have hne : wc.heap.size ≠ w.heap.size + 1 := by omega
  have hF2 : Fr (fun k => k = w.heap.size + 1) w1 (w1.setCell ⟨w.heap.size + 1, 1, none⟩ (.slice (some ⟨gg, 0, none⟩) 1 cap)) := Fr.setCell (F := fun k => k = w.heap.size + 1) (p := ⟨w.heap.size + 1, 1, none⟩) (Fr.refl _ w1) (fun _ => rfl) _
  have hF3 : Fr (fun k => k = w.heap.size + 1 ∨ sv.ownBlock = some k) wc (w1.setCell ⟨w.heap.size + 1, 1, none⟩ (.slice (some ⟨gg, 0, none⟩) 1 cap)) := (hF1.mono (G := fun k => k = w.heap.size + 1 ∨ sv.ownBlock = some k) (fun _ _ h => .inr h)).trans hF2 (fun _ _ h => .inl h)
  have hFw : Fr (fun _ => False) w (w1.setCell ⟨w.heap.size + 1, 1, none⟩ (.slice (some ⟨gg, 0, none⟩) 1 cap)) := hF.trans hF3 (fun i hi h => by
    rcases h with h | h
    · omega
    · have := (own_lt' hst h).1; omega)
  refine ⟨⟨?_, hd1.set 1 _, hp.fr hFw (fun _ h => h.elim), ?_, ?_, ?_, .inl rfl, fun k hk => by simp [Value.ownBlock] at hk, ?_, cache_dead _, by omega, by omega, by omega, hM, by simp, isMap_empty⟩, hFw⟩
  · exact (hbb.fr hF1 hsb).set_ne (a := ⟨w.heap.size + 1, 1, none⟩) (by simp) _
  · refine own_fr ho hF2 (fun k hk hkd => ?_)
    subst hkd
    exact own_ne_blk ho hd1 (by decide) hk
  · intro s hs
    simp at hs; subst hs
    exact World.ownsRow_nil _ _ _ _
  · intro s hs
    simp at hs; subst hs
    exact ⟨hN.set_ne (a := ⟨w.heap.size + 1, 1, none⟩) hne _, List.length_replicate, hF.size⟩
  · refine World.ownsMap.mono (n := 0) (map_fr hmap hF3 ?_) (Nat.zero_le _)
    rintro (h | h)
    · omega
    · exact map_ne_own hmap hst h

set_option maxRecDepth 100000 in
set_option maxHeartbeats 4000000 in
theorem builder_calls {pv : Value} {p : List Ins} (w : World) (hp : Prg w pv p w.heap.size) :
    Calls Tryd.prog 29 #[pv] w fun e w' => ∃ bb db mb nb sv, e = .returned (.pointer (some ⟨bb, 0, none⟩)) ∧ ∀ M, w.heap.size ≤ M → DB w' bb db mb pv p w.heap.size M (.slice none 0 0) sv [dead nb] (.map []) ∧ Fr (fun _ => False) w w' := by
  obtain ⟨X, hX, -⟩ := run_mk_states w
  have hmk : ∀ W : World, (Instr.makeSlice 106 (.int .i64 0) (.int .i64 16)).run Tryd.prog W = .ok (.slice (some ⟨W.heap.size, 0, none⟩) 0 16) (W.alloc (.cells (madeCells #[.slice none 0 0, .slice none 0 0, .bool false] 48) 115)) := by
    intro W
    obtain ⟨i0, hi, hz0, hz1, hz2⟩ := info_parts info115
    have h := run_make (P := Tryd.prog) W 106 115 i0 _ Tryd.underlying106 hi hz0 .i64 .i64 0 16 (by decide) (by decide) (by rw [hz2]; decide) (by decide)
    rw [hz1] at h
    exact h
  have hsz : (madeCells #[.slice none 0 0, .slice none 0 0, Value.bool false] 48).size = 48 := size_madeCells _ _
  generalize (madeCells #[.slice none 0 0, .slice none 0 0, Value.bool false] 48) = Y at *
  have hmm : ∀ W : World, (Instr.makeMap 109 (some (.int .i64 1024))).run Tryd.prog W = .ok (.map (some W.heap.size)) (W.alloc (.map #[] 0)) := fun W => by kernel_rfl
  obtain ⟨pa, cp, hpv, -, -⟩ := hp.at_
  subst hpv
  have HP := Lib.hid hp
  have HY := Lib.hid hsz
  clear hp hsz hX
  go_enter Tryd.func29, Tryd.ntmps29
  go_upto_region 1 with fail
  go_cut [3] (fun v wx => v = .pointer (some ⟨w.heap.size + 3, 0, none⟩) ∧ Blk wx (w.heap.size + 3) [.pointer (some ⟨w.heap.size + 1, 0, none⟩), .map (some (w.heap.size + 2)), .slice none 0 0] 111 ∧ (∃ sv, Blk wx (w.heap.size + 1) [.slice (some ⟨pa, 0, none⟩) p.length cp, sv] 108 ∧ wx.ownsRow w.heap.size 115 3 sv 0 []) ∧
    wx.ownsMap Tryd.prog 9 (plainElem Tryd.prog 3) (w.heap.size + 2) 0 (DataW.map (H := Unit) []) ∧ Fr (fun _ => False) w wx ∧ wx.heap.size = w.heap.size + 4)
  case first =>
    go_wp2_with fail
    go_meet
    exact ⟨rfl, builder_laid w _ _ Y HY.out⟩
  case rest =>
  obtain ⟨rfl, hbb, ⟨sv, hdb, hst⟩, hmap, hF, hsz4⟩ := hcut
  have hb0 := hbb.cell 0 rfl
  have hd1 := hdb.cell 1 rfl
  have hfd1 := hdb.frz 1
  have hlb := hbb.lt
  have hld := hdb.lt
  have hsd : sv.ownBlock ≠ some (w.heap.size + 1) := own_ne_blk hst hdb (by decide)
  have hsb : sv.ownBlock ≠ some (w.heap.size + 3) := own_ne_blk hst hbb (by decide)
  have hB0 : w.heap.size ≤ wc.heap.size := hF.size
  have hmk2 : ∀ W : World, (Instr.makeSlice 112 (.int .i64 256) (.int .i64 256)).run Tryd.prog W = .ok (.slice (some ⟨W.heap.size, 0, none⟩) 256 256) (W.alloc (.cells (i64s (List.replicate 256 0)).toArray 3)) := run_mk_i64_256
  generalize hC : i64s (List.replicate 256 0) = C at hmk2
  have HC := Lib.hid hC
  have HB := Lib.hid (And.intro hbb (And.intro hdb (And.intro hst (And.intro hmap (And.intro hF hsz4)))))
  clear hbb hdb hmap hF hC hmk hmm hsz4
  obtain ⟨i0, hi0, hz0, hz1, hz2⟩ := info_parts info115
  go_wp2_with fail
  refine wp_region_seqT (fun w' => w'.cell? ⟨w.heap.size + 3, 0, none⟩ = some (.pointer (some ⟨w.heap.size + 1, 0, none⟩)) ∧ w'.cell? ⟨w.heap.size + 1, 1, none⟩ = some sv ∧ w'.frozen? ⟨w.heap.size + 1, 1, none⟩ = false) (fun i => i ∉ [11, 13, 14, 15, 16, 17]) (fun i => 15 ≤ i) [0, 1, 2, 3, 4, 5, 6, 7, 8, 9, 10, 11, 12, 13, 14, 15, 16, 17] (by kernel_rfl) (by kernel_rfl) (fun c a d v w h => by cases d <;> exact h) ⟨hb0, hd1, hfd1⟩ ?_
  iterate 11 (apply seqT_read (ho := rfl) (hr := rfl) (hg := rfl); (rintro w' ⟨q1, q2, q3⟩; go_simp; rfl))
  refine seqT_do rfl rfl fun K hK => ?_
  go_simp
  refine hK _ _ (fun _ => ⟨cell_one hb0, cell_one hd1, frz_one hfd1 hld⟩) ?_
  clear hK K
  (apply seqT_read (ho := rfl) (hr := rfl) (hg := rfl); (rintro w' ⟨q1, q2, q3⟩; go_simp; rfl))
  refine seqT_do rfl rfl fun K hK => ?_
  go_simp
  refine hK _ _ (fun _ => ⟨cell_two hb0, cell_two hd1, frz_two hfd1 hld⟩) ?_
  clear hK K
  refine seqT_do rfl rfl fun K hK => ?_
  refine step_append_lies _ (by rfl) _ _ _ (by rfl) w.heap.size 115 i0 _ 3 56 Tryd.underlying106 hi0 hz0 hz1 hz2 rfl (by omega) sv 0 [] (by rfl) (own_drewN ((hst.alloc (.cells C.toArray 3)).alloc _) _) ⟨wc.heap.size + 1, 0, none⟩ 1 1 [.slice none 0 0, .slice (some ⟨wc.heap.size, 0, none⟩) 256 256, .bool false] (by rfl) (by rfl) (news_two wc C _ 115 _) (by simp [Value.oneCell']) (by omega) (by simp only [maxLen]; omega) (by omega) (by simp; omega) (wc.heap.size + 2) (by simp) ?_
  intro gg cap w1 hown1 hgrow hat hlt
  have hw0 := (hgrow.cell_far ⟨w.heap.size + 3, 0, none⟩ (lt_two hlb) (Ne.symm hsb)).trans (cell_two hb0)
  have hw1 := (hgrow.cell_far ⟨w.heap.size + 1, 1, none⟩ (lt_two hld) (Ne.symm hsd)).trans (cell_two hd1)
  have hw2 := (hgrow.frozen_far ⟨w.heap.size + 1, 1, none⟩ (lt_two hld) (Ne.symm hsd)).trans (frz_two hfd1 hld)
  refine hK _ _ (fun _ => ⟨hw0, hw1, hw2⟩) ?_
  clear hK K
  refine seqT_do rfl rfl fun K hK => ?_
  go_simp
  refine hK _ _ (fun h => absurd h (by decide)) ?_
  clear hK K
  refine seqT_do rfl rfl fun K hK => ?_
  go_simp
  refine hK _ _ (fun h => absurd h (by decide)) ?_
  clear hK K
  refine seqT_do rfl rfl fun K hK => ?_
  go_simp
  refine hK _ _ (fun h => absurd h (by decide)) ?_
  clear hK K
  unfold seqT
  go_wp2_with fail
  go_ret
  obtain ⟨hbb, hdb, hst, hmap, hF, hsz4⟩ := HB.out
  refine ⟨w.heap.size + 3, w.heap.size + 1, w.heap.size + 2, wc.heap.size, .slice (some ⟨gg, 0, none⟩) 1 cap, rfl, fun M hM => ?_⟩
  have HPO := HP.out
  rw [HC.out.symm] at hgrow
  exact builder_done HPO hM hbb hdb hst hmap hF hsd hgrow hown1 hat
end Go.Proofs.YtjeklnbfpehbeaaDoor

/- Plain words on the automaton that package regexp builds: what its states are, and what one step more does to them. No condition. -/
namespace Go.Proofs.YtjeklnbfpehbeaaDoor
open Go.RowKit Go.Maps

/-- Number ns stands for the places f. -/
def Names (S : List DSt) (ns : Nat) (f : List Nat) : Prop := (f = [] ∧ ns = 0) ∨ (f ≠ [] ∧ 1 ≤ ns ∧ ∃ s, S[ns]? = some s ∧ s.l = f)
/-- What state i holds for byte c is right. -/
def Valid (p : List Ins) (S : List DSt) (i c : Nat) : Prop := ∃ (st : DSt) (l' : List Nat) (ns : Nat), S[i]? = some st ∧ StepOk p st.l c l' ∧ st.nx[c]? = some ns ∧ Names S ns (l'.filter (rm p))
/-- What each state is. -/
structure SOk (p : List Ins) (s : DSt) : Prop where
  ne : s.l ≠ []
  nodup : s.l.Nodup
  lt : ∀ x, x ∈ s.l → x < p.length ∧ rm p x = true
  m : s.m = s.l.any (mt p)
  nx : s.nx.length = 256
structure SInv (p : List Ins) (S : List DSt) : Prop where
  zero : ∃ s, S[0]? = some s ∧ s.l = [] ∧ s.m = false ∧ s.nx = List.replicate 256 0
  ok : ∀ (i : Nat) (s : DSt), 1 ≤ i → S[i]? = some s → SOk p s
  dist : ∀ (i j : Nat) (s t : DSt), 1 ≤ i → 1 ≤ j → S[i]? = some s → S[j]? = some t → s.l = t.l → i = j
/-- A program whose automata are small. -/
def Cap (p : List Ins) : Prop := ∀ Ls : List (List Nat), Ls.Nodup → (∀ l, l ∈ Ls → l.Nodup ∧ ∀ x, x ∈ l → x < p.length ∧ rm p x = true) → Ls.length ≤ 9000
structure Dfa (p : List Ins) (S : List DSt) : Prop where
  inv : SInv p S
  start : ∃ (s : DSt) (l0 : List Nat), S[1]? = some s ∧ AddOk p [] 0 l0 ∧ s.l = l0.filter (rm p)
  step : ∀ i c, 1 ≤ i → i < S.length → c < 256 → Valid p S i c
  small : S.length ≤ 10000

/-- Same states but for their rows of next states. -/
def Grew (S S' : List DSt) : Prop := ∀ (i : Nat) (s : DSt), S[i]? = some s → ∃ s', S'[i]? = some s' ∧ s'.l = s.l

theorem snoc_at {α : Type} (S : List α) (x : α) : (S ++ [x])[S.length]? = some x := by simp
theorem snoc_len {α : Type} (S : List α) (x : α) : (S ++ [x]).length = S.length + 1 := by simp
theorem snoc_inv {α : Type} {S : List α} {x y : α} {i : Nat} (h : (S ++ [x])[i]? = some y) : S[i]? = some y ∨ (i = S.length ∧ y = x) := by
  rcases Nat.lt_or_ge i S.length with hi | hi
  · rw [List.getElem?_append_left hi] at h; exact .inl h
  · rw [List.getElem?_append_right hi] at h
    by_cases e : i = S.length
    · subst e; simp at h; exact .inr ⟨rfl, h.symm⟩
    · rw [List.getElem?_eq_none (by simp; omega)] at h; cases h
theorem SInv.len {p : List Ins} {S : List DSt} (h : SInv p S) : 1 ≤ S.length := by
  obtain ⟨s, hs, _⟩ := h.zero
  have := (List.getElem?_eq_some_iff.1 hs).1
  omega
theorem SInv.small {p : List Ins} {S : List DSt} (h : SInv p S) (hc : Cap p) : S.length ≤ 9001 := by
  have := hc ((S.drop 1).map DSt.l) ?_ ?_
  · simp at this; omega
  · rw [List.nodup_iff_pairwise_ne, List.pairwise_iff_getElem]
    intro i j hi hj hij he
    simp at hi hj
    simp at he
    have := h.dist (1 + i) (1 + j) _ _ (by omega) (by omega) (List.getElem?_eq_getElem (by omega)) (List.getElem?_eq_getElem (by omega)) (by simpa [Nat.add_comm] using he)
    omega
  · intro l hl
    simp only [List.mem_map] at hl
    obtain ⟨s, hs, rfl⟩ := hl
    obtain ⟨i, hi⟩ := List.mem_iff_getElem?.1 hs
    rw [List.getElem?_drop] at hi
    have := h.ok (1 + i) s (by omega) hi
    exact ⟨this.nodup, this.lt⟩

theorem Names.grew {S S' : List DSt} {ns : Nat} {f : List Nat} (h : Names S ns f) (hg : Grew S S') : Names S' ns f := by
  rcases h with h | ⟨h1, h2, s, h3, h4⟩
  · exact .inl h
  · obtain ⟨s', h5, h6⟩ := hg ns s h3
    exact .inr ⟨h1, h2, s', h5, h6.trans h4⟩

theorem grew_cout {S S1 : List DSt} {f : List Nat} {m : Bool} {ns s c : Nat} {st : DSt} (h : COut S S1 f m ns) (hs : S[s]? = some st) : Grew S (S1.set s (st.goto_ c ns)) := by
  intro i x hx
  by_cases e : i = s
  · subst e
    rw [hs] at hx; injection hx with hx; subst hx
    exact ⟨_, List.getElem?_set_self (List.getElem?_eq_some_iff.1 (cout_at h hs)).1, rfl⟩
  · exact ⟨x, by rw [List.getElem?_set_ne (Ne.symm e)]; exact cout_at h hx, rfl⟩

theorem rm_of_mt {p : List Ins} {x : Nat} (h : mt p x = true) : rm p x = true := by
  unfold mt at h; unfold rm
  split at h <;> simp_all
theorem any_filter_rm (p : List Ins) (l : List Nat) : l.any (mt p) = (l.filter (rm p)).any (mt p) := by
  induction l with
  | nil => rfl
  | cons a l ih =>
    by_cases h : rm p a = true
    · simp [h, ih]
    · have : mt p a = false := by
        cases hm : mt p a with
        | false => rfl
        | true => exact absurd (rm_of_mt hm) h
      simp [h, ih, this]
theorem filter_ok {p : List Ins} {L : List Nat} (hn : L.Nodup) (hl : ∀ x, x ∈ L → x < p.length) : (L.filter (rm p)).Nodup ∧ ∀ x, x ∈ L.filter (rm p) → x < p.length ∧ rm p x = true :=
  ⟨hn.filter _, fun x hx => ⟨hl x (List.mem_filter.1 hx).1, (List.mem_filter.1 hx).2⟩⟩

/-- A state is found, or made: the states stay right. -/
theorem SInv.cout {p : List Ins} {S S1 : List DSt} {L : List Nat} {ns : Nat} (h : SInv p S) (hc : COut S S1 (L.filter (rm p)) (L.any (mt p)) ns) (hn : L.Nodup) (hl : ∀ x, x ∈ L → x < p.length) : SInv p S1 := by
  rcases hc with ⟨_, _, rfl⟩ | ⟨_, rfl, _⟩ | ⟨hne, _, hnone, iv, nb, rfl⟩
  · exact h
  · exact h
  have h0 := h.len
  have hlast := @snoc_inv _ S (⟨L.filter (rm p), iv, nb, List.replicate 256 0, L.any (mt p)⟩ : DSt)
  refine ⟨?_, fun i s hi hs => ?_, fun i j s t hi hj hs ht e => ?_⟩
  · obtain ⟨s, h1, h2⟩ := h.zero
    exact ⟨s, by rw [List.getElem?_append_left h0]; exact h1, h2⟩
  · rcases hlast hs with hs | ⟨rfl, rfl⟩
    · exact h.ok i s hi hs
    · exact ⟨hne, (filter_ok hn hl).1, (filter_ok hn hl).2, any_filter_rm p L, List.length_replicate⟩
  · rcases hlast hs with hs | ⟨rfl, rfl⟩ <;> rcases hlast ht with ht | ⟨rfl, rfl⟩
    · exact h.dist i j s t hi hj hs ht e
    · exact absurd e (hnone i s hi hs)
    · exact absurd e.symm (hnone j t hj ht)
    · rfl

theorem SInv.goto_ {p : List Ins} {S : List DSt} {s c ns : Nat} {st : DSt} (h : SInv p S) (hs1 : 1 ≤ s) (hs : S[s]? = some st) : SInv p (S.set s (st.goto_ c ns)) := by
  have hsl := (List.getElem?_eq_some_iff.1 hs).1
  have key : ∀ (i : Nat) (x : DSt), (S.set s (st.goto_ c ns))[i]? = some x → ∃ y, S[i]? = some y ∧ y.l = x.l ∧ y.m = x.m ∧ y.nx.length = x.nx.length := by
    intro i x hx
    by_cases e : i = s
    · subst e
      rw [List.getElem?_set_self hsl] at hx
      injection hx with hx; subst hx
      exact ⟨st, hs, rfl, rfl, by simp [DSt.goto_]⟩
    · rw [List.getElem?_set_ne (Ne.symm e)] at hx
      exact ⟨x, hx, rfl, rfl, rfl⟩
  refine ⟨?_, fun i x hi hx => ?_, fun i j x y hi hj hx hy e => ?_⟩
  · obtain ⟨z, h1, h2⟩ := h.zero
    exact ⟨z, by rw [List.getElem?_set_ne (by omega)]; exact h1, h2⟩
  · obtain ⟨y, h1, h2, h3, h4⟩ := key i x hx
    have := h.ok i y hi h1
    exact ⟨by rw [← h2]; exact this.ne, by rw [← h2]; exact this.nodup, by rw [← h2]; exact this.lt, by rw [← h2, ← h3]; exact this.m, by rw [← h4]; exact this.nx⟩
  · obtain ⟨x', h1, h2, _⟩ := key i x hx
    obtain ⟨y', h3, h4, _⟩ := key j y hy
    exact h.dist i j x' y' hi hj h1 h3 (by rw [h2, h4]; exact e)

theorem cout_names {S S1 : List DSt} {f : List Nat} {m : Bool} {ns : Nat} (h : COut S S1 f m ns) (h0 : 1 ≤ S.length) : Names S1 ns f := by
  rcases h with ⟨h1, h2, rfl⟩ | ⟨h1, rfl, h2, h3⟩ | ⟨h1, h2, _, iv, nb, rfl⟩
  · exact .inl ⟨h1, h2⟩
  · exact .inr ⟨h1, h2, h3⟩
  · subst h2
    exact .inr ⟨h1, h0, _, snoc_at S _, rfl⟩

/-- What else is right stays right. -/
theorem Valid.kept {p : List Ins} {S S1 : List DSt} {f : List Nat} {m : Bool} {ns s c i d : Nat} {st : DSt} (h : Valid p S i d) (hc : COut S S1 f m ns) (hs : S[s]? = some st) (hne : i ≠ s ∨ d ≠ c) : Valid p (S1.set s (st.goto_ c ns)) i d := by
  obtain ⟨x, l', n', hx, h1, h2, h3⟩ := h
  by_cases e : i = s
  · subst e
    rw [hs] at hx; injection hx with hx; subst hx
    refine ⟨_, l', n', List.getElem?_set_self (List.getElem?_eq_some_iff.1 (cout_at hc hs)).1, h1, ?_, h3.grew (grew_cout hc hs)⟩
    simp only [DSt.goto_]
    rw [List.getElem?_set_ne (hne.elim (fun h => absurd rfl h) Ne.symm)]
    exact h2
  · exact ⟨x, l', n', by rw [List.getElem?_set_ne (Ne.symm e)]; exact cout_at hc hx, h1, h2, h3.grew (grew_cout hc hs)⟩
theorem Valid.new {p : List Ins} {S S1 : List DSt} {L : List Nat} {m : Bool} {ns s c : Nat} {st : DSt} (hc : COut S S1 (L.filter (rm p)) m ns) (hs : S[s]? = some st) (hl : st.nx.length = 256) (hlt : c < 256) (hst : StepOk p st.l c L) : Valid p (S1.set s (st.goto_ c ns)) s c := by
  have h1 := cout_at hc hs
  refine ⟨_, L, ns, List.getElem?_set_self (List.getElem?_eq_some_iff.1 h1).1, hst, by simp [DSt.goto_, hl, hlt], (cout_names hc (by have := (List.getElem?_eq_some_iff.1 hs).1; omega)).grew ?_⟩
  intro i x hx
  by_cases e : i = s
  · subst e
    rw [h1] at hx; injection hx with hx; subst hx
    exact ⟨_, List.getElem?_set_self (List.getElem?_eq_some_iff.1 h1).1, rfl⟩
  · exact ⟨x, by rw [List.getElem?_set_ne (Ne.symm e)]; exact hx, rfl⟩

theorem cout_len {S S1 : List DSt} {f : List Nat} {m : Bool} {ns : Nat} (h : COut S S1 f m ns) (h0 : 1 ≤ S.length) : ns < S1.length ∧ S.length ≤ S1.length ∧ ∀ i, i < S1.length → i < S.length ∨ (i = ns ∧ ns = S.length ∧ 1 ≤ ns) := by
  rcases h with ⟨_, rfl, rfl⟩ | ⟨_, rfl, _, s, hs, _⟩ | ⟨_, rfl, _, iv, nb, rfl⟩
  · exact ⟨by omega, Nat.le_refl _, fun i hi => .inl hi⟩
  · exact ⟨(List.getElem?_eq_some_iff.1 hs).1, Nat.le_refl _, fun i hi => .inl hi⟩
  · rw [snoc_len]
    exact ⟨by omega, by omega, fun i hi => by omega⟩

/-- The search of the builder: s is under way up to byte c, T is its stack, V what it has seen. -/
structure Srch (p : List Ins) (S : List DSt) (s c : Nat) (T V : List Nat) : Prop where
  inv : SInv p S
  cur : s < S.length
  stk : ∀ x, x ∈ T → 1 ≤ x ∧ x < S.length
  seen : ∀ x, x ∈ V → 1 ≤ x ∧ x < S.length
  vnd : V.Nodup
  part : ∀ d, d < c → 1 ≤ s → Valid p S s d
  all : ∀ i, 1 ≤ i → i < S.length → i = s ∨ i ∈ T ∨ ∀ d, d < 256 → Valid p S i d

theorem Srch.seen_len {p : List Ins} {S : List DSt} {s c : Nat} {T V : List Nat} (h : Srch p S s c T V) : V.length ≤ S.length :=
  length_le_of_nodup_lt S.length V h.vnd (fun x hx => (h.seen x hx).2)

/-- A round of the inner loop. -/
theorem Srch.round {p : List Ins} {S S1 : List DSt} {s c : Nat} {T V L : List Nat} {ns : Nat} {st : DSt} (h : Srch p S s c T V) (hs1 : 1 ≤ s) (hs : S[s]? = some st) (hlt : c < 256) (hst : StepOk p st.l c L) (hc : COut S S1 (L.filter (rm p)) (L.any (mt p)) ns)
    (hn : L.Nodup) (hl : ∀ x, x ∈ L → x < p.length) :
    (ns = 0 ∨ ns ∈ V → Srch p (S1.set s (st.goto_ c ns)) s (c + 1) T V) ∧ (ns ≠ 0 → ns ∉ V → Srch p (S1.set s (st.goto_ c ns)) s (c + 1) (T ++ [ns]) (ns :: V)) := by
  have h0 := h.inv.len
  obtain ⟨l1, l2, l3⟩ := cout_len hc h0
  have hinv : SInv p (S1.set s (st.goto_ c ns)) := (h.inv.cout hc hn hl).goto_ hs1 (cout_at hc hs)
  have hnx := (h.inv.ok s st hs1 hs).nx
  have hpart : ∀ d, d < c + 1 → 1 ≤ s → Valid p (S1.set s (st.goto_ c ns)) s d := by
    intro d hd _
    by_cases e : d = c
    · subst e; exact Valid.new hc hs hnx hlt hst
    · exact (h.part d (by omega) hs1).kept hc hs (.inr e)
  have hold : ∀ i, 1 ≤ i → i < S.length → i = s ∨ i ∈ T ∨ ∀ d, d < 256 → Valid p (S1.set s (st.goto_ c ns)) i d := by
    intro i h1 h2
    by_cases e : i = s
    · exact .inl e
    · rcases h.all i h1 h2 with h3 | h3 | h3
      · exact .inl h3
      · exact .inr (.inl h3)
      · exact .inr (.inr fun d hd => (h3 d hd).kept hc hs (.inl e))
  refine ⟨fun hv => ⟨hinv, ?_, fun x hx => ?_, fun x hx => ?_, h.vnd, hpart, fun i h1 h2 => ?_⟩, fun hz hv => ⟨hinv, ?_, fun x hx => ?_, fun x hx => ?_, ?_, hpart, fun i h1 h2 => ?_⟩⟩
  · simp; have := h.cur; omega
  · have := h.stk x hx; simp; omega
  · have := h.seen x hx; simp; omega
  · simp at h2
    rcases l3 i h2 with h3 | ⟨rfl, h4, h5⟩
    · exact hold i h1 h3
    · exfalso
      rcases hv with hv | hv
      · omega
      · have := (h.seen i hv).2; omega
  · simp; have := h.cur; omega
  · simp at hx
    rcases hx with hx | rfl
    · have := h.stk x hx; simp; omega
    · simp; omega
  · simp at hx
    rcases hx with rfl | hx
    · simp; omega
    · have := h.seen x hx; simp; omega
  · exact List.nodup_cons.2 ⟨hv, h.vnd⟩
  · simp at h2
    rcases l3 i h2 with h3 | ⟨rfl, h4, h5⟩
    · rcases hold i h1 h3 with h | h | h
      · exact .inl h
      · exact .inr (.inl (by simp [h]))
      · exact .inr (.inr h)
    · exact .inr (.inl (by simp))

/-- The state under way is done: the next is taken. -/
theorem Srch.pop {p : List Ins} {S : List DSt} {s x : Nat} {T V : List Nat} (h : Srch p S s 256 (T ++ [x]) V) (hs1 : 1 ≤ s) : Srch p S x 0 T V := by
  refine ⟨h.inv, (h.stk x (by simp)).2, fun y hy => h.stk y (by simp [hy]), h.seen, h.vnd, fun d hd => absurd hd (Nat.not_lt_zero d), fun i h1 h2 => ?_⟩
  rcases h.all i h1 h2 with rfl | h3 | h3
  · exact .inr (.inr fun d hd => h.part d hd hs1)
  · simp at h3
    rcases h3 with h3 | h3
    · exact .inr (.inl h3)
    · exact .inl h3
  · exact .inr (.inr h3)
theorem Srch.done {p : List Ins} {S : List DSt} {s : Nat} {V : List Nat} (h : Srch p S s 256 [] V) (hs1 : 1 ≤ s) : Srch p S 0 0 [] V := by
  refine ⟨h.inv, h.inv.len, (fun y hy => by cases hy), h.seen, h.vnd, fun d hd => absurd hd (Nat.not_lt_zero d), fun i h1 h2 => ?_⟩
  rcases h.all i h1 h2 with rfl | h3 | h3
  · exact .inr (.inr fun d hd => h.part d hd hs1)
  · cases h3
  · exact .inr (.inr h3)
end Go.Proofs.YtjeklnbfpehbeaaDoor

/- The builder's search in memory: the builder, both sets, the stack, what was seen. No condition. -/
namespace Go.Proofs.YtjeklnbfpehbeaaDoor
open Go.RowKit Go.Maps

/-- Where the builder's fixed blocks lie. -/
structure Where (bb db mb B M a ad az b bd bs sm : Nat) : Prop where
  g1 : B ≤ b
  g2 : B ≤ bd
  g3 : B ≤ bs
  g4 : B ≤ a
  g5 : B ≤ ad
  g6 : B ≤ az
  g7 : B ≤ sm
  m2 : bd < M
  m3 : bs < M
  m5 : ad < M
  m6 : az < M
  hab : ∀ k, SSf a ad az k → ¬ SSf b bd bs k
  mne : sm ≠ mb

structure BC (w : World) (bb db mb : Nat) (pv : Value) (p : List Ins) (B M a ad az b bd bs sm : Nat) (kv sv r stk : Value) (S : List DSt) (D : DataW Unit) (T V : List Nat) (Dm : DataW Unit) : Prop where
  db : DB w bb db mb pv p B M kv sv S D
  sa : ∃ la, SS w a ad az p.length la
  sb : ∃ lb, SS w b bd bs p.length lb
  ru : Reuse w M S r
  own : w.ownsRow M 3 1 stk T.length (i64s T)
  map : w.ownsMap Tryd.prog 3 unitElem sm V.length Dm
  has : ∀ x : Nat, has Dm (.int .i64 (x : Int)) = decide (x ∈ V)
  isMap : IsMap Dm
  snb : ∀ x, x ∈ S → stk.ownBlock ≠ some x.nb
  hM : M ≤ w.heap.size

section
variable {w w' : World} {bb db mb : Nat} {pv : Value} {p : List Ins} {B M a ad az b bd bs sm : Nat} {kv sv r stk : Value} {S : List DSt} {D : DataW Unit} {T V : List Nat} {Dm : DataW Unit}

theorem BC.drop (h : BC w bb db mb pv p B M a ad az b bd bs sm kv sv r stk S D T V Dm) (hf : Fr (fun _ => False) w w') : BC w' bb db mb pv p B M a ad az b bd bs sm kv sv r stk S D T V Dm := by
  obtain ⟨la, ha⟩ := h.sa
  obtain ⟨lb, hb⟩ := h.sb
  obtain ⟨rn, rxs, hr⟩ := h.ru.own
  exact ⟨h.db.fr hf (fun _ h => h.elim) (fun h => h) (fun h => h) (fun h => h) (fun _ _ h => h) (fun _ _ h => h) (fun _ _ _ _ h => h) (fun _ _ h => h), ⟨la, ha.fr hf (fun h => h) (fun h => h) (fun h => h)⟩, ⟨lb, hb.fr hf (fun h => h) (fun h => h) (fun h => h)⟩, ⟨⟨rn, rxs, own_fr hr hf (fun _ _ h => h)⟩, h.ru.apart⟩, own_fr h.own hf (fun _ _ h => h), map_fr h.map hf (fun h => h), h.has, h.isMap, h.snb, Nat.le_trans h.hM hf.size⟩

/-- The blocks of rows, maps and sets are apart. -/
theorem BC.map_far (h : BC w bb db mb pv p B M a ad az b bd bs sm kv sv r stk S D T V Dm) (W : Where bb db mb B M a ad az b bd bs sm) : ¬ SSf a ad az sm ∧ ¬ SSf b bd bs sm ∧ ¬ CF bb db mb kv sv r sm ∧ (∀ x, x ∈ S → sm ≠ x.nb) ∧ stk.ownBlock ≠ some sm := by
  obtain ⟨la, ha⟩ := h.sa
  obtain ⟨lb, hb⟩ := h.sb
  obtain ⟨rn, rxs, hr⟩ := h.ru.own
  have key : ∀ {n c1 c2 c3 : Nat} {l : List Nat}, SS w c1 c2 c3 n l → ¬ SSf c1 c2 c3 sm := by
    intro n c1 c2 c3 l hs
    obtain ⟨cd, _, d2, _⟩ := hs.dense
    obtain ⟨cs, _, s2, _⟩ := hs.sparse
    rintro (e | e | e)
    · exact map_ne_blk h.map hs.head e.symm
    · exact map_ne_blk h.map d2 e.symm
    · exact map_ne_blk h.map s2 e.symm
  refine ⟨key ha, key hb, ?_, fun x hx e => map_ne_blk h.map (h.db.next x hx).1 e.symm, map_ne_own h.map h.own⟩
  rintro (e | e | e | e | e | e)
  · exact map_ne_blk h.map h.db.hb e.symm
  · exact map_ne_blk h.map h.db.hd e.symm
  · exact W.mne e
  · obtain ⟨cs', hc⟩ := buf_blk h.db.buf e
    exact map_ne_blk h.map hc rfl
  · exact map_ne_own h.map h.db.sts e
  · exact map_ne_own h.map hr e

theorem BC.stk_far (h : BC w bb db mb pv p B M a ad az b bd bs sm kv sv r stk S D T V Dm) (W : Where bb db mb B M a ad az b bd bs sm) {k : Nat} (hk : stk.ownBlock = some k) : ¬ SSf a ad az k ∧ ¬ SSf b bd bs k ∧ ¬ CF bb db mb kv sv r k ∧ (∀ x, x ∈ S → k ≠ x.nb) ∧ k ≠ sm := by
  obtain ⟨la, ha⟩ := h.sa
  obtain ⟨lb, hb⟩ := h.sb
  obtain ⟨rn, rxs, hr⟩ := h.ru.own
  have key : ∀ {n c1 c2 c3 : Nat} {l : List Nat}, SS w c1 c2 c3 n l → ¬ SSf c1 c2 c3 k := by
    intro n c1 c2 c3 l hs
    obtain ⟨cd, _, d2, _⟩ := hs.dense
    obtain ⟨cs, _, s2, _⟩ := hs.sparse
    rintro (e | e | e) <;> subst e
    · exact own_ne_blk h.own hs.head (by decide) hk
    · exact own_ne_blk h.own d2 (by decide) hk
    · exact own_ne_blk h.own s2 (by decide) hk
  refine ⟨key ha, key hb, ?_, fun x hx e => by subst e; exact h.snb x hx hk, fun e => by subst e; exact map_ne_own h.map h.own hk⟩
  rintro (e | e | e | e | e | e)
  · subst e; exact own_ne_blk h.own h.db.hb (by decide) hk
  · subst e; exact own_ne_blk h.own h.db.hd (by decide) hk
  · subst e; exact map_ne_own h.db.map h.own hk
  · obtain ⟨cs', hc⟩ := buf_blk h.db.buf e
    exact own_ne_blk h.own hc (by decide) hk
  · exact own_ne_own h.own h.db.sts (by decide) hk e
  · exact own_ne_own h.own hr (by decide) hk e

/-- After 'runState'. -/
theorem BC.ran (h : BC w bb db mb pv p B M a ad az b bd bs sm kv sv r stk S D T V Dm) (W : Where bb db mb B M a ad az b bd bs sm) {nb : Nat} {kv' sv' r' : Value} {S' : List DSt} {D' : DataW Unit} {la lb : List Nat} (hnb : ∃ x, x ∈ S ∧ x.nb = nb)
    (hd : DB w' bb db mb pv p B M kv' sv' S' D') (ha : SS w' a ad az p.length la) (hb : SS w' b bd bs p.length lb) (hr : Reuse w' M S' r') (hf : Fr (RF a ad az b bd bs bb db mb nb kv sv r) w w') (hn : ∀ x, x ∈ S' → (∃ y, y ∈ S ∧ y.nb = x.nb) ∨ w.heap.size ≤ x.nb) :
    BC w' bb db mb pv p B M a ad az b bd bs sm kv' sv' r' stk S' D' T V Dm := by
  obtain ⟨m1, m2, m3, m4, m5⟩ := h.map_far W
  obtain ⟨x0, hx0, rfl⟩ := hnb
  refine ⟨hd, ⟨la, ha⟩, ⟨lb, hb⟩, hr, own_fr h.own hf ?_, map_fr h.map hf ?_, h.has, h.isMap, ?_, Nat.le_trans h.hM hf.size⟩
  · intro k hk
    obtain ⟨n1, n2, n3, n4, n5⟩ := h.stk_far W hk
    rintro (e | e | e | e)
    · exact n1 e
    · exact n2 e
    · exact n3 e
    · exact n4 x0 hx0 e
  · rintro (e | e | e | e)
    · exact m1 e
    · exact m2 e
    · exact m3 e
    · exact m4 x0 hx0 e
  · intro x hx hk
    rcases hn x hx with ⟨y, hy, e⟩ | e
    · rw [← e] at hk; exact h.snb y hy hk
    · have := (own_lt' h.own hk).2; omega

/-- What was seen grows. -/
theorem BC.saw (h : BC w bb db mb pv p B M a ad az b bd bs sm kv sv r stk S D T V Dm) (W : Where bb db mb B M a ad az b bd bs sm) {ns : Nat} (hf : Fr (fun k => k = sm) w w') (hm : w'.ownsMap Tryd.prog 3 unitElem sm (V.length + 1) (Dm.put (.int .i64 (ns : Int)) (.agg []))) :
    BC w' bb db mb pv p B M a ad az b bd bs sm kv sv r stk S D T (ns :: V) (Dm.put (.int .i64 (ns : Int)) (.agg [])) := by
  obtain ⟨m1, m2, m3, m4, m5⟩ := h.map_far W
  obtain ⟨la, ha⟩ := h.sa
  obtain ⟨lb, hb⟩ := h.sb
  obtain ⟨rn, rxs, hr⟩ := h.ru.own
  have key : ∀ {n c1 c2 c3 : Nat} {l : List Nat}, SS w c1 c2 c3 n l → ¬ SSf c1 c2 c3 sm → SS w' c1 c2 c3 n l := fun hs hn => hs.fr hf (fun e => hn (.inl e.symm)) (fun e => hn (.inr (.inl e.symm))) (fun e => hn (.inr (.inr e.symm)))
  refine ⟨h.db.fr hf (fun k e => by subst e; exact W.g7) (fun e => m3 (.inl e.symm)) (fun e => m3 (.inr (.inl e.symm))) (fun e => W.mne e.symm) (fun k hk e => by subst e; exact m3 (.inr (.inr (.inr (.inl hk))))) (fun k hk e => by subst e; exact m3 (.inr (.inr (.inr (.inr (.inl hk)))))) (fun s hs k hk e => by subst e; exact map_ne_own h.map (h.db.row s hs) hk) (fun s hs e => m4 s hs e.symm),
    ⟨la, key ha m1⟩, ⟨lb, key hb m2⟩, ⟨⟨rn, rxs, own_fr hr hf (fun k hk e => by subst e; exact map_ne_own h.map hr hk)⟩, h.ru.apart⟩, own_fr h.own hf (fun k hk e => by subst e; exact m5 hk), hm, ?_, hm.isMap, h.snb, Nat.le_trans h.hM hf.size⟩
  intro x
  by_cases e : x = ns
  · subst e
    rw [has_put_same h.isMap (by trivial)]
    simp
  · rw [has_put_other (by simp; omega), h.has x]
    simp [e]

/-- A number is pushed. -/
theorem BC.pushed (h : BC w bb db mb pv p B M a ad az b bd bs sm kv sv r stk S D T V Dm) (W : Where bb db mb B M a ad az b bd bs sm) {ns : Nat} {stk' : Value} (hf : Fr (fun k => stk.ownBlock = some k) w w') (hs : w'.ownsRow M 3 1 stk' (T ++ [ns]).length (i64s (T ++ [ns])))
    (hn : stk'.ownBlock = stk.ownBlock ∨ ∃ k, stk'.ownBlock = some k ∧ w.heap.size ≤ k) : BC w' bb db mb pv p B M a ad az b bd bs sm kv sv r stk' S D (T ++ [ns]) V Dm := by
  obtain ⟨la, ha⟩ := h.sa
  obtain ⟨lb, hb⟩ := h.sb
  obtain ⟨rn, rxs, hr⟩ := h.ru.own
  have key : ∀ {n c1 c2 c3 : Nat} {l : List Nat}, SS w c1 c2 c3 n l → (∀ k, stk.ownBlock = some k → ¬ SSf c1 c2 c3 k) → SS w' c1 c2 c3 n l := fun hs hn => hs.fr hf (fun e => hn _ e (.inl rfl)) (fun e => hn _ e (.inr (.inl rfl))) (fun e => hn _ e (.inr (.inr rfl)))
  have far := fun k hk => h.stk_far W (k := k) hk
  refine ⟨h.db.fr hf (fun k hk => Nat.le_trans h.db.BM (own_lt' h.own hk).1) (fun e => (far _ e).2.2.1 (.inl rfl)) (fun e => (far _ e).2.2.1 (.inr (.inl rfl))) (fun e => (far _ e).2.2.1 (.inr (.inr (.inl rfl)))) (fun k hk e => (far _ e).2.2.1 (.inr (.inr (.inr (.inl hk))))) (fun k hk e => (far _ e).2.2.1 (.inr (.inr (.inr (.inr (.inl hk))))))
      (fun s hs k hk e => own_ne_own h.own (h.db.row s hs) (by decide) e hk) (fun s hs e => h.snb s hs e),
    ⟨la, key ha fun k hk => (far k hk).1⟩, ⟨lb, key hb fun k hk => (far k hk).2.1⟩, ⟨⟨rn, rxs, own_fr hr hf (fun k hk e => own_ne_own h.own hr (by decide) e hk)⟩, h.ru.apart⟩, hs, map_fr h.map hf (fun e => (far _ e).2.2.2.2 rfl), h.has, h.isMap, ?_, Nat.le_trans h.hM hf.size⟩
  intro x hx hk
  rcases hn with e | ⟨k, e, hge⟩
  · exact h.snb x hx (e.symm.trans hk)
  · rw [e] at hk; injection hk with hk
    have := (h.db.next x hx).1.lt
    omega

/-- A number is popped. -/
theorem BC.popped {x : Nat} (h : BC w bb db mb pv p B M a ad az b bd bs sm kv sv r stk S D (T ++ [x]) V Dm) {stk' : Value} (hs : w'.ownsRow M 3 1 stk' T.length (i64s T)) (hw : ∃ n, w' = w.drewN n) (hn : stk'.ownBlock = stk.ownBlock) :
    BC w' bb db mb pv p B M a ad az b bd bs sm kv sv r stk' S D T V Dm := by
  obtain ⟨n, rfl⟩ := hw
  have h1 := h.drop ((Fr.refl (fun _ => False) w).drewN n)
  exact ⟨h1.db, h1.sa, h1.sb, h1.ru, hs, h1.map, h1.has, h1.isMap, fun y hy e => h1.snb y hy (hn.symm.trans e), h1.hM⟩
end

theorem RF_ge {w : World} {bb db mb : Nat} {pv : Value} {p : List Ins} {B M a ad az b bd bs sm : Nat} {kv sv r stk : Value} {S : List DSt} {D : DataW Unit} {T V : List Nat} {Dm : DataW Unit} (h : BC w bb db mb pv p B M a ad az b bd bs sm kv sv r stk S D T V Dm) (W : Where bb db mb B M a ad az b bd bs sm) {x : DSt} (hx : x ∈ S) :
    ∀ k, RF a ad az b bd bs bb db mb x.nb kv sv r k → B ≤ k := by
  obtain ⟨rn, rxs, hr⟩ := h.ru.own
  have BM := h.db.BM
  rintro k (e | e | (e | e | e | e | e | e) | e)
  · exact SSf_ge W.g4 W.g5 W.g6 k e
  · exact SSf_ge W.g1 W.g2 W.g3 k e
  · subst e; exact h.db.geb
  · subst e; exact h.db.ged
  · subst e; exact h.db.gem
  · exact h.db.bufB k e
  · exact (own_lt' h.db.sts e).1
  · exact Nat.le_trans BM (own_lt' hr e).1
  · subst e; exact (h.db.next x hx).2.2
end Go.Proofs.YtjeklnbfpehbeaaDoor
