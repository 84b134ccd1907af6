/- A state as it was read out of the data. Condition: the data were written by the builder. What a state that was read says: its output, its transitions. Condition: the data were written by the builder. -/
import Derived.Test.YtmhlnijpimjjaaaGreatDoorM21
import Derived.Shelf.Bytes.IndexByte
set_option linter.unusedSimpArgs false
set_option linter.unusedVariables false
namespace Go.Proofs.YtmhlnijpimjjaaaGreatDoor
section
open Go.RowKit Fmt
/-- What the data hold at an address. -/
def View (D : List Nat) (a : Nat) (s : Nd) : Prop :=
 (a = 0 ∧ s = ⟨true, 0, []⟩) ∨ (a ≠ 0 ∧ ∃ S, 16 ≤ S ∧ S ≤ a ∧ a + 16 < D.length + 0 ∧ (∀ p x, S ≤ p → p ≤ a → D[p]? = some x → x < 256) ∧ (s.arcs.map fun t => t.1).Pairwise (· < ·) ∧ (∀ t, t ∈ s.arcs → t.1 < 256 ∧ t.2.1 < 2 ^ 64 ∧ t.2.2 < S) ∧ s.fout < 2 ^ 64 ∧
  ((∃ i o t, s = ⟨false, 0, [(i, o, t)]⟩ ∧ OneAt codesN backN D S a i o t) ∨ ManyAt D S a s))
/-- The cells of a state that was read. -/
inductive Sc (D : List Nat) (g cap : Nat) : Nat → Nd → List Value → Prop
 | zero : Sc D g cap 0 ⟨true, 0, []⟩ (scells g D.length cap 0 1 0 0 false 0 0 0 0 true 0 0 0 0 0 0 0)
 | one (addr bot h i a o t u : Nat) (nx : Bool) (hh : D[addr]? = some h) (h128 : 128 ≤ h) (h256 : h < 256) (hi : i < 256) (ho : o < 2 ^ 64) (ha : a < addr) : Sc D g cap addr ⟨false, 0, [(i, o, a)]⟩ (scells g D.length cap addr bot 1 i nx a o t u false 0 0 0 0 0 0 0)
 | many (addr start N t u k P1 P2 P3 h ot ob fo : Nat) (s : Nd) (hh : D[addr]? = some h) (h128 : h < 128) (hN : s.arcs.length = N) (hka : k < addr) (ht : t ≤ 8) (hu : u ≤ 8) (h16 : 16 ≤ start) (h1 : P1 + N = k) (h2 : P2 + N * t = P1) (h3 : P3 + N * u = P2) (h4 : start + (if s.fin = true then u else 0) = P3)
   (hk : ∀ j x, s.arcs[j]? = some x → D[k - 1 - j]? = some x.1 ∧ unp (cutN D (P2 + (N - 1 - j) * t) t) = delta start x.2.2 ∧ unp (cutN D (P3 + (N - 1 - j) * u) u) = x.2.1 ∧ x.2.2 < start) (hf : s.fin = true → unp (cutN D start u) = s.fout)
   (hby : ∀ p x, start ≤ p → p ≤ addr → D[p]? = some x → x < 256) (hinc : (s.arcs.map fun t => t.1).Pairwise (· < ·)) (hb : ∀ t, t ∈ s.arcs → t.1 < 256 ∧ t.2.1 < 2 ^ 64) (ho0 : u = 0 → ot = 0 ∧ ob = 0) (ho1 : 0 < u → ot = P2 ∧ ob = P3 ∧ (s.fin = true → fo = start)) :
   Sc D g cap addr s (scells g D.length cap addr start N 0 false 0 0 t u s.fin k P1 P1 P2 ot ob fo)
theorem Sc.c10 {D : List Nat} {g cap a : Nat} {s : Nd} {cs : List Value} (h : Sc D g cap a s cs) : cs[10]? = some (.bool s.fin) := by cases h <;> rfl
theorem Sc.c3 {D : List Nat} {g cap a : Nat} {s : Nd} {cs : List Value} (h : Sc D g cap a s cs) : cs[3]? = some (.int .i64 (s.arcs.length : Int)) := by
 cases h with
 | zero => rfl
 | one => rfl
 | many addr start N t u k P1 P2 P3 h ot ob fo s hh h128 hN => subst hN; rfl
theorem Sc.len {D : List Nat} {g cap a : Nat} {s : Nd} {cs : List Value} (h : Sc D g cap a s cs) : cs.length = 18 := by cases h <;> rfl
/-- A state in memory. -/
def StC (w : World) (sb : Nat) (D : List Nat) (g cap a : Nat) (s : Nd) : Prop := ∃ cs, Sc D g cap a s cs ∧ Blk w sb cs 257
theorem StC.fr {w w' : World} {F : Nat → Prop} {sb g cap a : Nat} {D : List Nat} {s : Nd} (h : StC w sb D g cap a s) (k : Fr F w w') (hn : ¬ F sb) : StC w' sb D g cap a s := by
 obtain ⟨cs, h1, h2⟩ := h; exact ⟨cs, h1, h2.fr k hn⟩
set_option maxHeartbeats 1000000 in
set_option maxRecDepth 100000 in
theorem enc_calls {w : World} {sb g n cap addr h : Nat} (h0 : w.cell? ⟨sb, 0, none⟩ = some (.slice (some ⟨g, 0, none⟩) n cap)) (h1 : w.cell? ⟨sb, 1, none⟩ = some (.int .i64 (addr : Int))) (hh : w.cell? ⟨g, addr, none⟩ = some (.int .u8 (h : Int))) (hn : addr < n) (h256 : h < 256) :
  Calls Tryz.prog 141 #[.pointer (some ⟨sb, 0, none⟩)] w fun e w' => e = .returned (.bool (decide (128 ≤ h))) ∧ Fr (fun _ => False) w w' := by
 have en : (addr : Int) < (n : Int) := by omega
 have HE := Lib.hid (Fr.refl (fun _ => False) w).drew
 by_cases h128 : 128 ≤ h
 ·rw [decide_eq_true h128]
  have e1 : (h : Int) / 128 = 1 := by omega
  clear h128 hn h256
  go_enter Tryz.func141, Tryz.ntmps141
  go_wp2_with fail
  refine wp_region_seqV (fun W => W.cell? ⟨sb, 0, none⟩ = some (.slice (some ⟨g, 0, none⟩) n cap) ∧ W.cell? ⟨sb, 1, none⟩ = some (.int .i64 (addr : Int)) ∧ W.cell? ⟨g, addr, none⟩ = some (.int .u8 (h : Int))) (fun i => decide (True)) (fun i => ![3, 7, 9].contains i && decide (True)) (fun i => false) [0, 1, 2, 3, 4, 5, 6, 7, 8, 9, 10, 11] (by kernel_rfl) (by kernel_rfl) (fun c a d v w h => by cases d <;> exact h) ⟨h0, h1, hh⟩ ?_
  iterate 3 (apply seqV_pure (ho := rfl) (hr := rfl) (hg := rfl); (intro w'; go_simp; rfl))
  (apply seqV_read (ho := rfl) (hr := rfl) (hp := rfl) (hg := rfl); (rintro w' ⟨q0, q1, q2⟩; go_simp; rfl))
  go_simp
  iterate 3 (apply seqV_pure (ho := rfl) (hr := rfl) (hg := rfl); (intro w'; go_simp; rfl))
  (apply seqV_read (ho := rfl) (hr := rfl) (hp := rfl) (hg := rfl); (rintro w' ⟨q0, q1, q2⟩; go_simp; rfl))
  go_simp
  iterate 1 (apply seqV_pure (ho := rfl) (hr := rfl) (hg := rfl); (intro w'; go_simp; rfl))
  (apply seqV_read (ho := rfl) (hr := rfl) (hp := rfl) (hg := rfl); (rintro w' ⟨q0, q1, q2⟩; go_simp; rfl))
  go_simp
  iterate 2 (apply seqV_pure (ho := rfl) (hr := rfl) (hg := rfl); (intro w'; go_simp; rfl))
  unfold seqV
  go_simp
  go_wp2_with fail
  go_ret
  exact ⟨rfl, HE.out⟩
 ·rw [decide_eq_false h128]
  have e1 : (h : Int) / 128 = 0 := by omega
  clear h128 hn h256
  go_enter Tryz.func141, Tryz.ntmps141
  go_wp2_with fail
  refine wp_region_seqV (fun W => W.cell? ⟨sb, 0, none⟩ = some (.slice (some ⟨g, 0, none⟩) n cap) ∧ W.cell? ⟨sb, 1, none⟩ = some (.int .i64 (addr : Int)) ∧ W.cell? ⟨g, addr, none⟩ = some (.int .u8 (h : Int))) (fun i => decide (True)) (fun i => ![3, 7, 9].contains i && decide (True)) (fun i => false) [0, 1, 2, 3, 4, 5, 6, 7, 8, 9, 10, 11] (by kernel_rfl) (by kernel_rfl) (fun c a d v w h => by cases d <;> exact h) ⟨h0, h1, hh⟩ ?_
  iterate 3 (apply seqV_pure (ho := rfl) (hr := rfl) (hg := rfl); (intro w'; go_simp; rfl))
  (apply seqV_read (ho := rfl) (hr := rfl) (hp := rfl) (hg := rfl); (rintro w' ⟨q0, q1, q2⟩; go_simp; rfl))
  go_simp
  iterate 3 (apply seqV_pure (ho := rfl) (hr := rfl) (hg := rfl); (intro w'; go_simp; rfl))
  (apply seqV_read (ho := rfl) (hr := rfl) (hp := rfl) (hg := rfl); (rintro w' ⟨q0, q1, q2⟩; go_simp; rfl))
  go_simp
  iterate 1 (apply seqV_pure (ho := rfl) (hr := rfl) (hg := rfl); (intro w'; go_simp; rfl))
  (apply seqV_read (ho := rfl) (hr := rfl) (hp := rfl) (hg := rfl); (rintro w' ⟨q0, q1, q2⟩; go_simp; rfl))
  go_simp
  iterate 2 (apply seqV_pure (ho := rfl) (hr := rfl) (hg := rfl); (intro w'; go_simp; rfl))
  unfold seqV
  go_simp
  go_wp2_with fail
  go_ret
  exact ⟨rfl, HE.out⟩
set_option maxHeartbeats 1000000 in
theorem zero_calls {w : World} {sb g n cap : Nat} (hb : Blk w sb (scells g n cap 0 0 0 0 false 0 0 0 0 false 0 0 0 0 0 0 0) 257) :
  Calls Tryz.prog 139 #[.pointer (some ⟨sb, 0, none⟩)] w fun e w' => e = .returned .nilIface ∧ Blk w' sb (scells g n cap 0 1 0 0 false 0 0 0 0 true 0 0 0 0 0 0 0) 257 ∧ Fr (fun k => k = sb) w w' := by
 have r1 := hb.cell 1 rfl
 have z1 := hb.frz 1
 have r2 := hb.cell 2 rfl
 have z2 := hb.frz 2
 have r3 := hb.cell 3 rfl
 have z3 := hb.frz 3
 have r10 := hb.cell 10 rfl
 have z10 := hb.frz 10
 have r17 := hb.cell 17 rfl
 have z17 := hb.frz 17
 have HH := Lib.hid hb
 clear hb
 go_enter Tryz.func139, Tryz.ntmps139
 go_wp2_with fail
 go_ret
 exact ⟨rfl, ((((HH.out.set 1 _).set 2 _).set 3 _).set 10 _).set 17 _, (((((Fr.refl (fun k => k = sb) w).put1 1 _).put1 2 _).put1 3 _).put1 10 _).put1 17 _⟩
set_option maxHeartbeats 1000000 in
theorem fin_calls {w : World} {sb g cap a : Nat} {D : List Nat} {s : Nd} (h : StC w sb D g cap a s) :
  Calls Tryz.prog 175 #[.pointer (some ⟨sb, 0, none⟩)] w fun e w' => e = .returned (.bool s.fin) ∧ w' = w := by
 obtain ⟨cs, h1, h2⟩ := h
 have r10 := h2.cell 10 h1.c10
 clear h1 h2
 generalize s.fin = b at *
 go_enter Tryz.func175, Tryz.ntmps175
 go_wp2_with fail
 go_ret
 exact ⟨rfl, rfl⟩
set_option maxHeartbeats 1000000 in
theorem num_calls {w : World} {sb g cap a : Nat} {D : List Nat} {s : Nd} (h : StC w sb D g cap a s) :
  Calls Tryz.prog 177 #[.pointer (some ⟨sb, 0, none⟩)] w fun e w' => e = .returned (.int .i64 (s.arcs.length : Int)) ∧ w' = w := by
 obtain ⟨cs, h1, h2⟩ := h
 have r10 := h2.cell 3 h1.c3
 clear h1 h2
 generalize s.arcs.length = b at *
 go_enter Tryz.func177, Tryz.ntmps177
 go_wp2_with fail
 go_ret
 exact ⟨rfl, rfl⟩
theorem idx_at : ∀ (l : List Nat) (p c : Nat), (∀ x, x ∈ l → x < 256) → l[p]? = some c → (∀ q, q < p → l[q]? ≠ some c) → Lib.indexByte (Lib.bytesOf (l.map fun x : Nat => (x : Int))) ((c : Int).toNat.toUInt8) = (p : Int)
 | [], p, c, hb, hp, hq => by simp at hp
 | b :: l, 0, c, hb, hp, hq => by
  simp only [List.getElem?_cons_zero, Option.some.injEq] at hp
  subst hp
  simp [Lib.bytesOf, Lib.indexByte]
 | b :: l, p + 1, c, hb, hp, hq => by
  have h0 := hq 0 (by omega)
  simp only [List.getElem?_cons_zero, ne_eq, Option.some.injEq] at h0
  simp only [List.getElem?_cons_succ] at hp
  have hc : c < 256 := hb c (List.mem_cons_of_mem _ (List.mem_of_getElem? hp))
  have hb0 : b < 256 := hb b (List.mem_cons_self ..)
  have ih := idx_at l p c (fun x hx => hb x (List.mem_cons_of_mem _ hx)) hp (fun q hqp => by have := hq (q + 1) (by omega); simpa using this)
  have e : (UInt8.ofNat ((b : Int).toNat) == (c : Int).toNat.toUInt8) = false := by
   rw [beq_eq_false_iff_ne]
   intro e
   have := congrArg UInt8.toNat e
   simp [Nat.toUInt8] at this
   omega
  simp only [List.map_cons, Lib.bytesOf, Lib.indexByte] at ih ⊢
  rw [e, ih]
  have : ((p : Int) == -1) = false := by rw [beq_eq_false_iff_ne]; omega
  simp [this]
/-- The keys of a state from the lowest place up. -/
theorem keys_back {s : Nd} {D : List Nat} {k N P1 : Nat} (hN : s.arcs.length = N) (h1 : P1 + N = k) (hk : ∀ j x, s.arcs[j]? = some x → D[k - 1 - j]? = some x.1) : ∀ i, i < N → ∃ c, (s.arcs.reverse.map fun t => t.1)[i]? = some c ∧ D[P1 + i]? = some c := by
 intro i hi
 have hj : N - 1 - i < s.arcs.length := by omega
 refine ⟨(s.arcs[N - 1 - i]).1, ?_, ?_⟩
 ·rw [List.getElem?_map, List.getElem?_reverse (by omega), hN, List.getElem?_eq_getElem hj]; rfl
 ·rw [← hk (N - 1 - i) _ (List.getElem?_eq_getElem hj)]; congr 1; omega
end
section
open Go.RowKit Fmt
/-- A part of the data as bytes. -/
theorem Byts.cut {w : World} {g : Nat} {D : List Nat} (h : Byts w g 0 D) (p m : Nat) (hp : p + m ≤ D.length) : Byts w g p (cutN D p m) := ⟨fun j c hj => by
 unfold cutN at hj
 rw [List.getElem?_take] at hj
 split at hj
 ·rw [List.getElem?_drop] at hj
  have := h.at_ (p + j) c hj
  simpa using this
 ·cases hj⟩
theorem cut_lt {D : List Nat} {S a p m : Nat} (hby : ∀ q x, S ≤ q → q ≤ a → D[q]? = some x → x < 256) (h1 : S ≤ p) (h2 : p + m ≤ a + 1) : ∀ x, x ∈ cutN D p m → x < 256 := by
 intro x hx
 unfold cutN at hx
 obtain ⟨j, hj⟩ := List.mem_iff_getElem?.1 hx
 rw [List.getElem?_take] at hj
 split at hj
 ·rw [List.getElem?_drop] at hj
  exact hby (p + j) x (by omega) (by omega) hj
 ·cases hj
/-- Reading a number out of the data. -/
theorem cut_calls {w : World} {g n p m c V S a : Nat} {D : List Nat} (h : Byts w g 0 D) (hp : p + m ≤ D.length) (h8 : m ≤ 8) (hby : ∀ q x, S ≤ q → q ≤ a → D[q]? = some x → x < 256) (h1 : S ≤ p) (h2 : p + m ≤ a + 1) (hV : unp (cutN D p m) = V) (hn : n = m) :
  Calls Tryz.prog 145 #[.slice (some ⟨g, p, none⟩) n c] w fun e w' => e = .returned (.int .u64 (V : Int)) ∧ w' = w := by
 subst hV hn
 exact upack_calls (h.cut p n hp) (cutN_len hp) (cut_lt hby h1 h2) h8
set_option maxHeartbeats 1000000 in
set_option maxRecDepth 100000 in
theorem finout_calls {w : World} {sb g cap a : Nat} {D : List Nat} {s : Nd} (h : StC w sb D g cap a s) (hby : Byts w g 0 D) (hc : D.length ≤ cap) (hm : cap ≤ maxLen) (haD : a < D.length) :
  Calls Tryz.prog 176 #[.pointer (some ⟨sb, 0, none⟩)] w fun e w' => e = .returned (.int .u64 (if s.fin = true then (s.fout : Int) else 0)) ∧ Fr (fun _ => False) w w' := by
 obtain ⟨cs, h1, hb⟩ := h
 have r10 := hb.cell 10 h1.c10
 have HE := Lib.hid (Fr.refl (fun _ => False) w).drew
 have HE0 := Lib.hid (Fr.refl (fun _ => False) w)
 cases h1 with
 | zero =>
  have r9 := hb.cell 9 rfl
  clear hb hby
  go_enter Tryz.func176, Tryz.ntmps176
  go_wp2_with fail
  go_ret
  exact ⟨rfl, HE0.out⟩
 | one _ bot h i a1 o t u nx hh h128 h256 hi ho ha =>
  clear hb hby
  go_enter Tryz.func176, Tryz.ntmps176
  go_wp2_with fail
  go_ret
  exact ⟨rfl, HE0.out⟩
 | many _ start N t u k P1 P2 P3 h ot ob fo s hh h128 hN hka ht hu h16 h1 h2 h3 h4 hk hf hby0 hinc hb0 ho0 ho1 =>
  have r9 := hb.cell 9 rfl
  have r17 := hb.cell 17 rfl
  have r0 := hb.cell 0 rfl
  clear hb hk
  generalize hfin : s.fin = fin at *
  cases fin with
  | false =>
   clear hby
   simp only [Bool.false_eq_true, if_false]
   go_enter Tryz.func176, Tryz.ntmps176
   go_wp2_with fail
   go_ret
   exact ⟨rfl, HE0.out⟩
  | true =>
   rw [if_pos rfl] at h4
   simp only [if_true]
   have hf := hf rfl
   generalize s.fout = fo1 at *
   rcases Nat.eq_zero_or_pos u with hu0 | hu0
   ·subst hu0
    have : fo1 = 0 := by rw [← hf]; simp [cutN, unp]
    subst this
    clear hby
    go_enter Tryz.func176, Tryz.ntmps176
    go_wp2_with fail
    go_ret
    exact ⟨rfl, HE0.out⟩
   ·obtain ⟨_, _, ho2⟩ := ho1 hu0
    obtain rfl := ho2 rfl
    have e1 : (0 : Int) < (u : Int) := by omega
    obtain ⟨q, hq⟩ : ∃ q, Hid (fo + u = q) := ⟨_, Lib.hid rfl⟩
    have hq' := hq.out
    unfold maxLen at hm
    have hNu : fo + u ≤ k := by rw [h4]; omega
    have e2 : IntKind.i64.wrap ((fo : Int) + (u : Int)) = (q : Int) := by rw [IntWalk.i64_in _ (by omega)]; omega
    have e3 : (fo : Int) ≤ (q : Int) := by omega
    have e4 : (q : Int) ≤ (cap : Int) := by omega
    have e5 : ¬ cap = fo := by omega
    have e6 : q - fo = u := by omega
    have hc1 := cut_calls (g := g) (p := fo) (c := cap - fo) (V := fo1) (S := fo) hby.drew (by omega) hu hby0 (Nat.le_refl _) (by omega) hf rfl
    generalize hnD : D.length = n at *
    clear hby hby0 hq' hNu h4 hfin hf h1 h2 h3
    go_enter Tryz.func176, Tryz.ntmps176
    go_wp2_with fail
    refine wp_region_seqV (fun W => W.cell? ⟨sb, 0, none⟩ = some (.slice (some ⟨g, 0, none⟩) n cap) ∧ W.cell? ⟨sb, 17, none⟩ = some (.int .i64 (fo : Int)) ∧ W.cell? ⟨sb, 9, none⟩ = some (.int .i64 (u : Int))) (fun i => decide (i ≠ 18)) (fun i => ![3, 7, 11, 15].contains i && decide (i ≠ 18)) (fun i => false) [0, 1, 2, 3, 4, 5, 6, 7, 8, 9, 10, 11, 12, 13, 14, 15, 16, 17, 18, 19] (by kernel_rfl) (by kernel_rfl) (fun c a d v w h => by cases d <;> exact h) ⟨r0, r17, r9⟩ ?_
    iterate 3 (apply seqV_pure (ho := rfl) (hr := rfl) (hg := rfl); (intro w'; go_simp; rfl))
    (apply seqV_read (ho := rfl) (hr := rfl) (hp := rfl) (hg := rfl); (rintro w' ⟨q0, q1, q2⟩; go_simp; rfl))
    go_simp
    iterate 3 (apply seqV_pure (ho := rfl) (hr := rfl) (hg := rfl); (intro w'; go_simp; rfl))
    (apply seqV_read (ho := rfl) (hr := rfl) (hp := rfl) (hg := rfl); (rintro w' ⟨q0, q1, q2⟩; go_simp; rfl))
    go_simp
    iterate 3 (apply seqV_pure (ho := rfl) (hr := rfl) (hg := rfl); (intro w'; go_simp; rfl))
    (apply seqV_read (ho := rfl) (hr := rfl) (hp := rfl) (hg := rfl); (rintro w' ⟨q0, q1, q2⟩; go_simp; rfl))
    go_simp
    iterate 3 (apply seqV_pure (ho := rfl) (hr := rfl) (hg := rfl); (intro w'; go_simp; rfl))
    (apply seqV_read (ho := rfl) (hr := rfl) (hp := rfl) (hg := rfl); (rintro w' ⟨q0, q1, q2⟩; go_simp; rfl))
    go_simp
    iterate 2 (apply seqV_pure (ho := rfl) (hr := rfl) (hg := rfl); (intro w'; go_simp; rfl))
    refine seqV_do rfl rfl fun K hK => ?_
    go_simp
    refine hc1.mono ?_
    rintro e w' ⟨rfl, rfl⟩
    refine hK _ _ (fun _ => ⟨r0, r17, r9⟩) ?_
    clear hK K
    go_simp
    iterate 1 (apply seqV_pure (ho := rfl) (hr := rfl) (hg := rfl); (intro w'; go_simp; rfl))
    unfold seqV
    go_simp
    go_wp2_with fail
    go_ret
    exact ⟨rfl, HE.out⟩
set_option maxHeartbeats 1000000 in
set_option maxRecDepth 100000 in
theorem trat_calls {w : World} {sb g cap a j : Nat} {D : List Nat} {s : Nd} {x : Nat × Nat × Nat} (h : StC w sb D g cap a s) (hby : Byts w g 0 D) (hc : D.length ≤ cap) (hm : cap ≤ maxLen) (haD : a < D.length) (hj : s.arcs[j]? = some x) (hgs : ¬ g = sb) :
  Calls Tryz.prog 178 #[.pointer (some ⟨sb, 0, none⟩), .int .i64 (j : Int)] w fun e w' => e = .returned (.int .u8 (x.1 : Int)) ∧ Fr (fun _ => False) w w' := by
 obtain ⟨cs, h1, hb⟩ := h
 cases h1 with
 | zero => simp at hj
 | one _ bot h i a1 o t u nx hh h128 h256 hi ho ha =>
  have hj0 : j = 0 := by have := (List.getElem?_eq_some_iff.1 hj).1; simp at this; exact this
  subst hj0
  simp only [List.getElem?_cons_zero, Option.some.injEq] at hj
  subst hj
  have hen := enc_calls (hb.cell 0 rfl) (hb.cell 1 rfl) (by simpa using hby.at_ a h hh) haD h256
  rw [decide_eq_true h128] at hen
  simp only
  have HH := Lib.hid hb
  clear hb hby
  go_enter Tryz.func178, Tryz.ntmps178
  go_wp2_with fail
  refine hen.mono ?_
  rintro e w1 ⟨rfl, hF⟩
  have r4 := (HH.out.fr hF (fun h => h)).cell 4 rfl
  have HF := Lib.hid hF
  clear hen hF
  go_wp2_with fail
  go_ret
  exact ⟨rfl, HF.out⟩
 | many _ start N t u k P1 P2 P3 h ot ob fo s hh h128 hN hka ht hu h16 h1 h2 h3 h4 hk hf hby0 hinc hb0 ho0 ho1 =>
  have hjN : j < N := by rw [← hN]; exact (List.getElem?_eq_some_iff.1 hj).1
  have hx := (hk j x hj).1
  have hen := enc_calls (hb.cell 0 rfl) (hb.cell 1 rfl) (by simpa using hby.at_ a h hh) haD (by omega)
  rw [decide_eq_false (by omega : ¬ 128 ≤ h)] at hen
  generalize hnD : D.length = n at *
  unfold maxLen at hm
  obtain ⟨q, hq⟩ : ∃ q, Hid (N - j - 1 = q) := ⟨_, Lib.hid rfl⟩
  obtain ⟨z, hz⟩ : ∃ z, Hid (N - j = z) := ⟨_, Lib.hid rfl⟩
  have hq' := hq.out
  have hz' := hz.out
  have e1 : IntKind.i64.wrap ((N : Int) - (j : Int)) = (z : Int) := by rw [IntWalk.i64_in _ (by omega)]; omega
  have e2 : IntKind.i64.wrap ((z : Int) - 1) = (q : Int) := by rw [IntWalk.i64_in _ (by omega)]; omega
  have e3 : (P1 : Int) ≤ (k : Int) := by omega
  have e4 : (k : Int) ≤ (cap : Int) := by omega
  have e5 : ¬ cap = P1 := by omega
  have e6 : k - P1 = N := by omega
  have e7 : (q : Int) < (N : Int) := by omega
  have hcl : w.cell? ⟨g, P1 + q, none⟩ = some (.int .u8 (x.1 : Int)) := by
   have := hby.at_ (k - 1 - j) x.1 hx
   rw [show (0 : Nat) + (k - 1 - j) = P1 + q by omega] at this
   exact this
  generalize x.1 = v at *
  have HH := Lib.hid hb
  have HC := Lib.hid hcl
  clear hb hby hk hf hby0 hinc hb0 ho0 ho1 h1 h2 h3 h4 hq' hz' hcl hx hj
  go_enter Tryz.func178, Tryz.ntmps178
  go_wp2_with fail
  refine hen.mono ?_
  rintro e w1 ⟨rfl, hF⟩
  have r0 := (HH.out.fr hF (fun h => h)).cell 0 rfl
  have r12 := (HH.out.fr hF (fun h => h)).cell 12 rfl
  have r11 := (HH.out.fr hF (fun h => h)).cell 11 rfl
  have r3 := (HH.out.fr hF (fun h => h)).cell 3 rfl
  have rq := hF.cell HC.out (fun h => h)
  have HF := Lib.hid hF.drew
  clear hen hF
  go_wp2_with fail
  refine wp_region_seqV (fun W => W.cell? ⟨sb, 0, none⟩ = some (.slice (some ⟨g, 0, none⟩) n cap) ∧ W.cell? ⟨sb, 12, none⟩ = some (.int .i64 (P1 : Int)) ∧ W.cell? ⟨sb, 11, none⟩ = some (.int .i64 (k : Int))) (fun i => decide (True)) (fun i => ![3, 7, 11].contains i && decide (True)) (fun i => false) [0, 1, 2, 3, 4, 5, 6, 7, 8, 9, 10, 11, 12, 13] (by kernel_rfl) (by kernel_rfl) (fun c a d v w h => by cases d <;> exact h) ⟨r0, r12, r11⟩ ?_
  iterate 3 (apply seqV_pure (ho := rfl) (hr := rfl) (hg := rfl); (intro w'; go_simp; rfl))
  (apply seqV_read (ho := rfl) (hr := rfl) (hp := rfl) (hg := rfl); (rintro w' ⟨q0, q1, q2⟩; go_simp; rfl))
  go_simp
  iterate 3 (apply seqV_pure (ho := rfl) (hr := rfl) (hg := rfl); (intro w'; go_simp; rfl))
  (apply seqV_read (ho := rfl) (hr := rfl) (hp := rfl) (hg := rfl); (rintro w' ⟨q0, q1, q2⟩; go_simp; rfl))
  go_simp
  iterate 3 (apply seqV_pure (ho := rfl) (hr := rfl) (hg := rfl); (intro w'; go_simp; rfl))
  (apply seqV_read (ho := rfl) (hr := rfl) (hp := rfl) (hg := rfl); (rintro w' ⟨q0, q1, q2⟩; go_simp; rfl))
  go_simp
  iterate 2 (apply seqV_pure (ho := rfl) (hr := rfl) (hg := rfl); (intro w'; go_simp; rfl))
  unfold seqV
  go_simp
  go_wp2_with fail
  go_ret
  exact ⟨rfl, HF.out⟩
set_option maxHeartbeats 4000000 in
set_option maxRecDepth 100000 in
theorem trfor_calls {w : World} {sb g cap a j : Nat} {D : List Nat} {s : Nd} {x : Nat × Nat × Nat} (h : StC w sb D g cap a s) (hby : Byts w g 0 D) (hc : D.length ≤ cap) (hm : cap ≤ maxLen) (haD : a < D.length) (hj : s.arcs[j]? = some x) (hgs : ¬ g = sb) :
  Calls Tryz.prog 179 #[.pointer (some ⟨sb, 0, none⟩), .int .u8 (x.1 : Int)] w fun e w' => e = .returned (.tuple #[.int .i64 (j : Int), .int .i64 (x.2.2 : Int), .int .u64 (x.2.1 : Int)]) ∧ Fr (fun _ => False) w w' := by
 obtain ⟨cs, h1, hb⟩ := h
 cases h1 with
 | zero => simp at hj
 | one _ bot h i a1 o t u nx hh h128 h256 hi ho ha =>
  have hj0 : j = 0 := by have := (List.getElem?_eq_some_iff.1 hj).1; simp at this; exact this
  subst hj0
  simp only [List.getElem?_cons_zero, Option.some.injEq] at hj
  subst hj
  have hen := enc_calls (hb.cell 0 rfl) (hb.cell 1 rfl) (by simpa using hby.at_ a h hh) haD h256
  rw [decide_eq_true h128] at hen
  unfold maxLen at hm
  have e1 : IntKind.i64.wrap (a1 : Int) = (a1 : Int) := IntWalk.i64_in _ (by omega)
  simp only
  have HH := Lib.hid hb
  clear hb hby
  go_enter Tryz.func179, Tryz.ntmps179
  go_wp2_with fail
  refine hen.mono ?_
  rintro e w1 ⟨rfl, hF⟩
  have r4 := (HH.out.fr hF (fun h => h)).cell 4 rfl
  have r6 := (HH.out.fr hF (fun h => h)).cell 6 rfl
  have r7 := (HH.out.fr hF (fun h => h)).cell 7 rfl
  have HF := Lib.hid hF.drew
  clear hen hF
  go_wp2_with fail
  refine wp_region_seqV (fun W => W.cell? ⟨sb, 6, none⟩ = some (.int .u64 (a1 : Int)) ∧ W.cell? ⟨sb, 7, none⟩ = some (.int .u64 (o : Int))) (fun i => decide (True)) (fun i => ![3, 8].contains i && decide (True)) (fun i => false) [0, 1, 2, 3, 4, 5, 6, 7, 8, 9, 10, 11] (by kernel_rfl) (by kernel_rfl) (fun c a d v w h => by cases d <;> exact h) ⟨r6, r7⟩ ?_
  iterate 3 (apply seqV_pure (ho := rfl) (hr := rfl) (hg := rfl); (intro w'; go_simp; rfl))
  (apply seqV_read (ho := rfl) (hr := rfl) (hp := rfl) (hg := rfl); (rintro w' ⟨q0, q1⟩; go_simp; rfl))
  go_simp
  iterate 3 (apply seqV_pure (ho := rfl) (hr := rfl) (hg := rfl); (intro w'; go_simp; rfl))
  go_simp
  iterate 1 (apply seqV_pure (ho := rfl) (hr := rfl) (hg := rfl); (intro w'; go_simp; rfl))
  (apply seqV_read (ho := rfl) (hr := rfl) (hp := rfl) (hg := rfl); (rintro w' ⟨q0, q1⟩; go_simp; rfl))
  go_simp
  iterate 3 (apply seqV_pure (ho := rfl) (hr := rfl) (hg := rfl); (intro w'; go_simp; rfl))
  unfold seqV
  go_simp
  go_wp2_with fail
  go_ret3
  exact ⟨rfl, HF.out⟩
 | many _ start N t u k P1 P2 P3 h ot ob fo s hh h128 hN hka ht hu h16 h1 h2 h3 h4 hk hf hby0 hinc hb0 ho0 ho1 =>
  have hjN : j < N := by rw [← hN]; exact (List.getElem?_eq_some_iff.1 hj).1
  obtain ⟨hx1, hx2, hx3, hx4⟩ := hk j x hj
  have hen := enc_calls (hb.cell 0 rfl) (hb.cell 1 rfl) (by simpa using hby.at_ a h hh) haD (by omega)
  rw [decide_eq_false (by omega : ¬ 128 ≤ h)] at hen
  unfold maxLen at hm
  -- the place of the byte among the keys
  obtain ⟨p, hp⟩ : ∃ p, N - 1 - j = p := ⟨_, rfl⟩
  have hkb := keys_back hN h1 (fun j x hx => (hk j x hx).1)
  have hkl : (s.arcs.reverse.map fun t => t.1).length = N := by simp [hN]
  have hkp : (s.arcs.reverse.map fun t => t.1)[p]? = some x.1 := by
   rw [List.getElem?_map, List.getElem?_reverse (by omega), hN]
   rw [show N - 1 - p = j by omega, hj]; rfl
  have hix : ∀ W, Byts W g 0 D → Calls Tryz.prog 180 #[.slice (some ⟨g, P1, none⟩) N (cap - P1), .int .u8 (x.1 : Int)] W fun e w' => e = .returned (.int .i64 (p : Int)) ∧ w' = W := by
   intro W hW
   have hpw : (s.arcs.reverse.map fun t => t.1).Pairwise (fun a b => b < a) := by
    rw [List.map_reverse, List.pairwise_reverse]; exact hinc
   have hne : ∀ q, q < p → (s.arcs.reverse.map fun t => t.1)[q]? ≠ some x.1 := by
    intro q hq hqe
    obtain ⟨a1, a2⟩ := List.getElem?_eq_some_iff.1 hqe
    obtain ⟨b1, b2⟩ := List.getElem?_eq_some_iff.1 hkp
    have := List.pairwise_iff_getElem.1 hpw q p a1 b1 hq
    omega
   have hlt : ∀ y, y ∈ (s.arcs.reverse.map fun t => t.1) → y < 256 := by
    intro y hy
    obtain ⟨z, hz, rfl⟩ := List.mem_map.1 hy
    exact (hb0 z (List.mem_reverse.1 hz)).1
   have := Any.bytes_IndexByte lays187 g P1 N (cap - P1) ((s.arcs.reverse.map fun t => t.1).map fun y : Nat => (y : Int)) (x.1 : Int) W (by rw [List.length_map, hkl]) (fun i hi => by
    obtain ⟨c, c1, c2⟩ := hkb i hi
    have c3 := hW.at_ _ c c2
    rw [Nat.zero_add] at c3
    rw [c3]
    rw [List.getD_eq_getElem?_getD, List.getElem?_map, c1]; rfl)
   rw [idx_at _ p x.1 hlt hkp hne] at this
   exact this
  have hNt : p * t + t ≤ N * t := by rw [← Nat.succ_mul]; exact Nat.mul_le_mul_right _ (by omega)
  have hNu : p * u + u ≤ N * u := by rw [← Nat.succ_mul]; exact Nat.mul_le_mul_right _ (by omega)
  rw [hp] at hx2 hx3
  obtain ⟨A, hA⟩ : ∃ A, Hid (p * t = A) := ⟨_, Lib.hid rfl⟩
  obtain ⟨A2, hA2⟩ : ∃ A2, Hid (A + t = A2) := ⟨_, Lib.hid rfl⟩
  obtain ⟨M, hM⟩ : ∃ M, Hid (N * t = M) := ⟨_, Lib.hid rfl⟩
  obtain ⟨B, hB⟩ : ∃ B, Hid (p * u = B) := ⟨_, Lib.hid rfl⟩
  obtain ⟨B2, hB2⟩ : ∃ B2, Hid (B + u = B2) := ⟨_, Lib.hid rfl⟩
  obtain ⟨M', hM'⟩ : ∃ M', Hid (N * u = M') := ⟨_, Lib.hid rfl⟩
  have mA : IntKind.i64.wrap ((p : Int) * (t : Int)) = (A : Int) := by rw [← Int.natCast_mul, hA.out]; exact IntWalk.i64_in _ (by have := hA.out; have := hM.out; omega)
  have mB : IntKind.i64.wrap ((p : Int) * (u : Int)) = (B : Int) := by rw [← Int.natCast_mul, hB.out]; exact IntWalk.i64_in _ (by have := hB.out; have := hM'.out; omega)
  rw [hA.out] at hx2 hNt
  rw [hB.out] at hx3 hNu
  rw [hM.out] at h2 hNt
  rw [hM'.out] at h3 hNu
  have hst : start ≤ P3 := by rw [← h4]; omega
  obtain ⟨d, hd⟩ : ∃ d, unp (cutN D (P2 + A) t) = d := ⟨_, rfl⟩
  rw [hd] at hx2
  have hx2' : d = 0 ∧ x.2.2 = 0 ∨ d ≠ 0 ∧ d + x.2.2 = start := by
   rw [hx2]; unfold delta
   by_cases h0 : x.2.2 = 0
   ·left; rw [if_pos h0]; exact ⟨rfl, h0⟩
   ·right; rw [if_neg h0]; omega
  have hsl := hA2.out
  have hsl2 := hB2.out
  have gd : ∀ W, Byts W g 0 D → Calls Tryz.prog 145 #[.slice (some ⟨g, P2 + A, none⟩) t (cap - P2 - A)] W fun e w' => e = .returned (.int .u64 (d : Int)) ∧ w' = W := fun W hW => cut_calls hW (by omega) ht hby0 (by omega) (by omega) hd rfl
  have go : ∀ W, Byts W g 0 D → Calls Tryz.prog 145 #[.slice (some ⟨g, P3 + B, none⟩) u (cap - P3 - B)] W fun e w' => e = .returned (.int .u64 (x.2.1 : Int)) ∧ w' = W := fun W hW => cut_calls hW (by omega) hu hby0 (by omega) (by omega) hx3 rfl
  have hx3' : u = 0 → x.2.1 = 0 := fun hu0 => by rw [← hx3, hu0]; simp [cutN, unp]
  generalize hnD : D.length = n at *
  have f1 : (P1 : Int) ≤ (k : Int) := by omega
  have f2 : (k : Int) ≤ (cap : Int) := by omega
  have f3 : ¬ cap = P1 := by omega
  have f4 : k - P1 = N := by omega
  have f5 : ¬ (p : Int) < 0 := by omega
  have f6 : (P2 : Int) ≤ (P1 : Int) := by omega
  have f7 : (P1 : Int) ≤ (cap : Int) := by omega
  have f8 : ¬ cap = P2 := by omega
  have f9 : P1 - P2 = M := by omega
  have f10 : IntKind.i64.wrap ((A : Int) + (t : Int)) = (A2 : Int) := by rw [IntWalk.i64_in _ (by omega)]; omega
  have f11 : (A : Int) ≤ (A2 : Int) := by omega
  have f12 : (A2 : Int) ≤ ((cap - P2 : Nat) : Int) := by omega
  have f13 : ¬ cap - P2 = A := by omega
  have f14 : A2 - A = t := by omega
  have f15 : IntKind.i64.wrap (d : Int) = (d : Int) := IntWalk.i64_in _ (by omega)
  have f16 : IntKind.i64.wrap ((N : Int) - (p : Int)) = ((j + 1 : Nat) : Int) := by rw [IntWalk.i64_in _ (by omega)]; omega
  have f17 : IntKind.i64.wrap (((j + 1 : Nat) : Int) - 1) = (j : Int) := by rw [IntWalk.i64_in _ (by omega)]; omega
  obtain ⟨j1, hj1⟩ : ∃ j1, Hid (j + 1 = j1) := ⟨_, Lib.hid rfl⟩
  rw [hj1.out] at f16 f17
  have f18 : d ≠ 0 → IntKind.i64.wrap ((start : Int) - (d : Int)) = (x.2.2 : Int) := fun h0 => by rw [IntWalk.i64_in _ (by omega)]; omega
  have f19 : d ≠ 0 → (0 : Int) < (d : Int) := fun h0 => by omega
  have f20 : 0 < u → ((P3 : Int) ≤ (P2 : Int) ∧ (P2 : Int) ≤ (cap : Int) ∧ ¬ cap = P3 ∧ P2 - P3 = M' ∧ IntKind.i64.wrap ((B : Int) + (u : Int)) = (B2 : Int) ∧ (B : Int) ≤ (B2 : Int) ∧ (B2 : Int) ≤ ((cap - P3 : Nat) : Int) ∧ ¬ cap - P3 = B ∧ B2 - B = u ∧ (0 : Int) < (u : Int)) := fun hu0 => by
   refine ⟨by omega, by omega, by omega, by omega, ?_, by omega, by omega, by omega, by omega, by omega⟩
   rw [IntWalk.i64_in _ (by omega)]; omega
  have f21 : u = 0 → (cap ≠ 0) := fun _ => by omega
  have HZ := Lib.hid (And.intro hx2' (And.intro f18 (And.intro f19 (And.intro f20 (And.intro hx3' (And.intro ho0 ho1))))))
  have HH := Lib.hid hb
  have HB := Lib.hid hby
  have HG := Lib.hid (And.intro gd (And.intro go hix))
  have hcap0 : ¬ cap = 0 := by omega
  generalize x.1 = xv at *
  generalize x.2.1 = xo at *
  generalize x.2.2 = xa at *
  clear hb hby hk hf hby0 hinc hb0 ho0 ho1 h1 h2 h3 h4 hx1 hx2 hx3 hx4 hj hx2' hx3' f18 f19 f20 f21 gd go hix hkb hkl hkp hsl hsl2 hst hd hNt hNu hp
  go_enter Tryz.func179, Tryz.ntmps179
  go_wp2_with fail
  refine hen.mono ?_
  rintro e w1 ⟨rfl, hF⟩
  have r0 := (HH.out.fr hF (fun h => h)).cell 0 rfl
  have r2 := (HH.out.fr hF (fun h => h)).cell 2 rfl
  have r3 := (HH.out.fr hF (fun h => h)).cell 3 rfl
  have r8 := (HH.out.fr hF (fun h => h)).cell 8 rfl
  have r9 := (HH.out.fr hF (fun h => h)).cell 9 rfl
  have r11 := (HH.out.fr hF (fun h => h)).cell 11 rfl
  have r12 := (HH.out.fr hF (fun h => h)).cell 12 rfl
  have r13 := (HH.out.fr hF (fun h => h)).cell 13 rfl
  have r14 := (HH.out.fr hF (fun h => h)).cell 14 rfl
  have r15 := (HH.out.fr hF (fun h => h)).cell 15 rfl
  have r16 := (HH.out.fr hF (fun h => h)).cell 16 rfl
  have hby1 := HB.out.fr hF (fun h => h)
  have HF := Lib.hid (fun W (h : Fr (fun _ => False) w1 W) => hF.trans h (fun _ _ h => h))
  have hix := HG.out.2.2 _ hby1.drew
  have gd := HG.out.1 _ hby1.drew.drew.drew
  clear hen hF
  go_wp2_with fail
  refine wp_region_seqV (fun W => W.cell? ⟨sb, 0, none⟩ = some (.slice (some ⟨g, 0, none⟩) n cap) ∧ W.cell? ⟨sb, 12, none⟩ = some (.int .i64 (P1 : Int)) ∧ W.cell? ⟨sb, 11, none⟩ = some (.int .i64 (k : Int))) (fun i => decide (True)) (fun i => ![3, 7, 11].contains i && decide (True)) (fun i => false) [0, 1, 2, 3, 4, 5, 6, 7, 8, 9, 10, 11, 12, 13] (by kernel_rfl) (by kernel_rfl) (fun c a d v w h => by cases d <;> exact h) ⟨r0, r12, r11⟩ ?_
  iterate 3 (apply seqV_pure (ho := rfl) (hr := rfl) (hg := rfl); (intro w'; go_simp; rfl))
  (apply seqV_read (ho := rfl) (hr := rfl) (hp := rfl) (hg := rfl); (rintro w' ⟨q0, q1, q2⟩; go_simp; rfl))
  go_simp
  iterate 3 (apply seqV_pure (ho := rfl) (hr := rfl) (hg := rfl); (intro w'; go_simp; rfl))
  (apply seqV_read (ho := rfl) (hr := rfl) (hp := rfl) (hg := rfl); (rintro w' ⟨q0, q1, q2⟩; go_simp; rfl))
  go_simp
  iterate 3 (apply seqV_pure (ho := rfl) (hr := rfl) (hg := rfl); (intro w'; go_simp; rfl))
  (apply seqV_read (ho := rfl) (hr := rfl) (hp := rfl) (hg := rfl); (rintro w' ⟨q0, q1, q2⟩; go_simp; rfl))
  go_simp
  iterate 2 (apply seqV_pure (ho := rfl) (hr := rfl) (hg := rfl); (intro w'; go_simp; rfl))
  unfold seqV
  go_simp
  go_wp2_with fail
  refine hix.mono ?_
  rintro e w2 ⟨rfl, rfl⟩
  go_wp2_with fail
  refine wp_region_seqV (fun W => W.cell? ⟨sb, 0, none⟩ = some (.slice (some ⟨g, 0, none⟩) n cap) ∧ W.cell? ⟨sb, 14, none⟩ = some (.int .i64 (P2 : Int)) ∧ W.cell? ⟨sb, 13, none⟩ = some (.int .i64 (P1 : Int))) (fun i => decide (True)) (fun i => ![3, 7, 11].contains i && decide (True)) (fun i => false) [0, 1, 2, 3, 4, 5, 6, 7, 8, 9, 10, 11, 12, 13] (by kernel_rfl) (by kernel_rfl) (fun c a d v w h => by cases d <;> exact h) ⟨r0, r14, r13⟩ ?_
  iterate 3 (apply seqV_pure (ho := rfl) (hr := rfl) (hg := rfl); (intro w'; go_simp; rfl))
  (apply seqV_read (ho := rfl) (hr := rfl) (hp := rfl) (hg := rfl); (rintro w' ⟨q0, q1, q2⟩; go_simp; rfl))
  go_simp
  iterate 3 (apply seqV_pure (ho := rfl) (hr := rfl) (hg := rfl); (intro w'; go_simp; rfl))
  (apply seqV_read (ho := rfl) (hr := rfl) (hp := rfl) (hg := rfl); (rintro w' ⟨q0, q1, q2⟩; go_simp; rfl))
  go_simp
  iterate 3 (apply seqV_pure (ho := rfl) (hr := rfl) (hg := rfl); (intro w'; go_simp; rfl))
  (apply seqV_read (ho := rfl) (hr := rfl) (hp := rfl) (hg := rfl); (rintro w' ⟨q0, q1, q2⟩; go_simp; rfl))
  go_simp
  iterate 2 (apply seqV_pure (ho := rfl) (hr := rfl) (hg := rfl); (intro w'; go_simp; rfl))
  unfold seqV
  go_simp
  go_wp2_with fail
  refine wp_region_seqV (fun W => W.cell? ⟨sb, 8, none⟩ = some (.int .i64 (t : Int))) (fun i => decide (i ≠ 19)) (fun i => ![5, 11, 16].contains i && decide (i ≠ 19)) (fun i => false) [0, 1, 2, 3, 4, 5, 6, 7, 8, 9, 10, 11, 12, 13, 14, 15, 16, 17, 18, 19, 20, 21] (by kernel_rfl) (by kernel_rfl) (fun c a d v w h => by cases d <;> exact h) r8 ?_
  iterate 3 (apply seqV_pure (ho := rfl) (hr := rfl) (hg := rfl); (intro w'; go_simp; rfl))
  go_simp
  iterate 2 (apply seqV_pure (ho := rfl) (hr := rfl) (hg := rfl); (intro w'; go_simp; rfl))
  (apply seqV_read (ho := rfl) (hr := rfl) (hp := rfl) (hg := rfl); (rintro w' q0; go_simp; rfl))
  go_simp
  iterate 3 (apply seqV_pure (ho := rfl) (hr := rfl) (hg := rfl); (intro w'; go_simp; rfl))
  go_simp
  iterate 2 (apply seqV_pure (ho := rfl) (hr := rfl) (hg := rfl); (intro w'; go_simp; rfl))
  (apply seqV_read (ho := rfl) (hr := rfl) (hp := rfl) (hg := rfl); (rintro w' q0; go_simp; rfl))
  go_simp
  iterate 3 (apply seqV_pure (ho := rfl) (hr := rfl) (hg := rfl); (intro w'; go_simp; rfl))
  go_simp
  iterate 1 (apply seqV_pure (ho := rfl) (hr := rfl) (hg := rfl); (intro w'; go_simp; rfl))
  (apply seqV_read (ho := rfl) (hr := rfl) (hp := rfl) (hg := rfl); (rintro w' q0; go_simp; rfl))
  go_simp
  iterate 2 (apply seqV_pure (ho := rfl) (hr := rfl) (hg := rfl); (intro w'; go_simp; rfl))
  refine seqV_do rfl rfl fun K hK => ?_
  go_simp
  refine gd.mono ?_
  rintro e w' ⟨rfl, rfl⟩
  refine hK _ _ (fun _ => r8) ?_
  clear hK K
  go_simp
  iterate 2 (apply seqV_pure (ho := rfl) (hr := rfl) (hg := rfl); (intro w'; go_simp; rfl))
  unfold seqV
  go_simp
  rcases HZ.out.1 with hda | hda
  ·obtain ⟨hd0, ha0⟩ := hda
   subst hd0 ha0
   rcases Nat.eq_zero_or_pos u with hu0 | hu0
   ·obtain ⟨q1, q2⟩ := HZ.out.2.2.2.2.2.1 hu0
    obtain rfl := HZ.out.2.2.2.2.1 hu0
    have m1 : (ob : Int) ≤ (ot : Int) := by omega
    have m2 : (ot : Int) ≤ (cap : Int) := by omega
    have m3 : ¬ cap = ob := by omega
    have m4 : ¬ (0 : Int) < (u : Int) := by omega
    clear q1 q2 hu0
    go_wp2_with fail
    refine wp_region_seqV (fun W => W.cell? ⟨sb, 0, none⟩ = some (.slice (some ⟨g, 0, none⟩) n cap) ∧ W.cell? ⟨sb, 16, none⟩ = some (.int .i64 (ob : Int)) ∧ W.cell? ⟨sb, 15, none⟩ = some (.int .i64 (ot : Int))) (fun i => decide (True)) (fun i => ![3, 7, 11].contains i && decide (True)) (fun i => false) [0, 1, 2, 3, 4, 5, 6, 7, 8, 9, 10, 11, 12, 13] (by kernel_rfl) (by kernel_rfl) (fun c a d v w h => by cases d <;> exact h) ⟨r0, r16, r15⟩ ?_
    iterate 3 (apply seqV_pure (ho := rfl) (hr := rfl) (hg := rfl); (intro w'; go_simp; rfl))
    (apply seqV_read (ho := rfl) (hr := rfl) (hp := rfl) (hg := rfl); (rintro w' ⟨q0, q1, q2⟩; go_simp; rfl))
    go_simp
    iterate 3 (apply seqV_pure (ho := rfl) (hr := rfl) (hg := rfl); (intro w'; go_simp; rfl))
    (apply seqV_read (ho := rfl) (hr := rfl) (hp := rfl) (hg := rfl); (rintro w' ⟨q0, q1, q2⟩; go_simp; rfl))
    go_simp
    iterate 3 (apply seqV_pure (ho := rfl) (hr := rfl) (hg := rfl); (intro w'; go_simp; rfl))
    (apply seqV_read (ho := rfl) (hr := rfl) (hp := rfl) (hg := rfl); (rintro w' ⟨q0, q1, q2⟩; go_simp; rfl))
    go_simp
    iterate 2 (apply seqV_pure (ho := rfl) (hr := rfl) (hg := rfl); (intro w'; go_simp; rfl))
    unfold seqV
    go_simp
    go_wp2_with fail
    go_ret3
    exact ⟨rfl, HF.out _ (Fr.refl _ _).drew.drew.drew.drew⟩
   ·obtain ⟨m1, m2, m3, m4, m5, m6, m7, m8, m9, m10⟩ := HZ.out.2.2.2.1 hu0
    obtain ⟨q1, q2, _⟩ := HZ.out.2.2.2.2.2.2 hu0
    rw [q1] at r15
    rw [q2] at r16
    clear q1 q2 hu0
    have gv := HG.out.2.1 _ hby1.drew.drew.drew.drew.drew
    go_wp2_with fail
    refine wp_region_seqV (fun W => W.cell? ⟨sb, 0, none⟩ = some (.slice (some ⟨g, 0, none⟩) n cap) ∧ W.cell? ⟨sb, 16, none⟩ = some (.int .i64 (P3 : Int)) ∧ W.cell? ⟨sb, 15, none⟩ = some (.int .i64 (P2 : Int))) (fun i => decide (True)) (fun i => ![3, 7, 11].contains i && decide (True)) (fun i => false) [0, 1, 2, 3, 4, 5, 6, 7, 8, 9, 10, 11, 12, 13] (by kernel_rfl) (by kernel_rfl) (fun c a d v w h => by cases d <;> exact h) ⟨r0, r16, r15⟩ ?_
    iterate 3 (apply seqV_pure (ho := rfl) (hr := rfl) (hg := rfl); (intro w'; go_simp; rfl))
    (apply seqV_read (ho := rfl) (hr := rfl) (hp := rfl) (hg := rfl); (rintro w' ⟨q0, q1, q2⟩; go_simp; rfl))
    go_simp
    iterate 3 (apply seqV_pure (ho := rfl) (hr := rfl) (hg := rfl); (intro w'; go_simp; rfl))
    (apply seqV_read (ho := rfl) (hr := rfl) (hp := rfl) (hg := rfl); (rintro w' ⟨q0, q1, q2⟩; go_simp; rfl))
    go_simp
    iterate 3 (apply seqV_pure (ho := rfl) (hr := rfl) (hg := rfl); (intro w'; go_simp; rfl))
    (apply seqV_read (ho := rfl) (hr := rfl) (hp := rfl) (hg := rfl); (rintro w' ⟨q0, q1, q2⟩; go_simp; rfl))
    go_simp
    iterate 2 (apply seqV_pure (ho := rfl) (hr := rfl) (hg := rfl); (intro w'; go_simp; rfl))
    unfold seqV
    go_simp
    go_wp2_with fail
    refine wp_region_seqV (fun W => W.cell? ⟨sb, 9, none⟩ = some (.int .i64 (u : Int))) (fun i => decide (i ≠ 19)) (fun i => ![5, 11, 16].contains i && decide (i ≠ 19)) (fun i => false) [0, 1, 2, 3, 4, 5, 6, 7, 8, 9, 10, 11, 12, 13, 14, 15, 16, 17, 18, 19, 20] (by kernel_rfl) (by kernel_rfl) (fun c a d v w h => by cases d <;> exact h) r9 ?_
    iterate 3 (apply seqV_pure (ho := rfl) (hr := rfl) (hg := rfl); (intro w'; go_simp; rfl))
    go_simp
    iterate 2 (apply seqV_pure (ho := rfl) (hr := rfl) (hg := rfl); (intro w'; go_simp; rfl))
    (apply seqV_read (ho := rfl) (hr := rfl) (hp := rfl) (hg := rfl); (rintro w' q0; go_simp; rfl))
    go_simp
    iterate 3 (apply seqV_pure (ho := rfl) (hr := rfl) (hg := rfl); (intro w'; go_simp; rfl))
    go_simp
    iterate 2 (apply seqV_pure (ho := rfl) (hr := rfl) (hg := rfl); (intro w'; go_simp; rfl))
    (apply seqV_read (ho := rfl) (hr := rfl) (hp := rfl) (hg := rfl); (rintro w' q0; go_simp; rfl))
    go_simp
    iterate 3 (apply seqV_pure (ho := rfl) (hr := rfl) (hg := rfl); (intro w'; go_simp; rfl))
    go_simp
    iterate 1 (apply seqV_pure (ho := rfl) (hr := rfl) (hg := rfl); (intro w'; go_simp; rfl))
    (apply seqV_read (ho := rfl) (hr := rfl) (hp := rfl) (hg := rfl); (rintro w' q0; go_simp; rfl))
    go_simp
    iterate 2 (apply seqV_pure (ho := rfl) (hr := rfl) (hg := rfl); (intro w'; go_simp; rfl))
    refine seqV_do rfl rfl fun K hK => ?_
    go_simp
    refine gv.mono ?_
    rintro e w' ⟨rfl, rfl⟩
    refine hK _ _ (fun _ => r9) ?_
    clear hK K
    go_simp
    iterate 1 (apply seqV_pure (ho := rfl) (hr := rfl) (hg := rfl); (intro w'; go_simp; rfl))
    unfold seqV
    go_simp
    go_wp2_with fail
    go_ret3
    exact ⟨rfl, HF.out _ (Fr.refl _ _).drew.drew.drew.drew.drew⟩
  ·obtain ⟨hd0, ha0⟩ := hda
   have g0 := HZ.out.2.2.1 hd0
   have g1 := HZ.out.2.1 hd0
   clear hd0 ha0
   rcases Nat.eq_zero_or_pos u with hu0 | hu0
   ·obtain ⟨q1, q2⟩ := HZ.out.2.2.2.2.2.1 hu0
    obtain rfl := HZ.out.2.2.2.2.1 hu0
    have m1 : (ob : Int) ≤ (ot : Int) := by omega
    have m2 : (ot : Int) ≤ (cap : Int) := by omega
    have m3 : ¬ cap = ob := by omega
    have m4 : ¬ (0 : Int) < (u : Int) := by omega
    clear q1 q2 hu0
    go_wp2_with fail
    refine wp_region_seqV (fun W => W.cell? ⟨sb, 0, none⟩ = some (.slice (some ⟨g, 0, none⟩) n cap) ∧ W.cell? ⟨sb, 16, none⟩ = some (.int .i64 (ob : Int)) ∧ W.cell? ⟨sb, 15, none⟩ = some (.int .i64 (ot : Int))) (fun i => decide (True)) (fun i => ![3, 7, 11].contains i && decide (True)) (fun i => false) [0, 1, 2, 3, 4, 5, 6, 7, 8, 9, 10, 11, 12, 13] (by kernel_rfl) (by kernel_rfl) (fun c a d v w h => by cases d <;> exact h) ⟨r0, r16, r15⟩ ?_
    iterate 3 (apply seqV_pure (ho := rfl) (hr := rfl) (hg := rfl); (intro w'; go_simp; rfl))
    (apply seqV_read (ho := rfl) (hr := rfl) (hp := rfl) (hg := rfl); (rintro w' ⟨q0, q1, q2⟩; go_simp; rfl))
    go_simp
    iterate 3 (apply seqV_pure (ho := rfl) (hr := rfl) (hg := rfl); (intro w'; go_simp; rfl))
    (apply seqV_read (ho := rfl) (hr := rfl) (hp := rfl) (hg := rfl); (rintro w' ⟨q0, q1, q2⟩; go_simp; rfl))
    go_simp
    iterate 3 (apply seqV_pure (ho := rfl) (hr := rfl) (hg := rfl); (intro w'; go_simp; rfl))
    (apply seqV_read (ho := rfl) (hr := rfl) (hp := rfl) (hg := rfl); (rintro w' ⟨q0, q1, q2⟩; go_simp; rfl))
    go_simp
    iterate 2 (apply seqV_pure (ho := rfl) (hr := rfl) (hg := rfl); (intro w'; go_simp; rfl))
    unfold seqV
    go_simp
    go_wp2_with fail
    go_ret3
    exact ⟨rfl, HF.out _ (Fr.refl _ _).drew.drew.drew.drew⟩
   ·obtain ⟨m1, m2, m3, m4, m5, m6, m7, m8, m9, m10⟩ := HZ.out.2.2.2.1 hu0
    obtain ⟨q1, q2, _⟩ := HZ.out.2.2.2.2.2.2 hu0
    rw [q1] at r15
    rw [q2] at r16
    clear q1 q2 hu0
    have gv := HG.out.2.1 _ hby1.drew.drew.drew.drew.drew
    go_wp2_with fail
    refine wp_region_seqV (fun W => W.cell? ⟨sb, 0, none⟩ = some (.slice (some ⟨g, 0, none⟩) n cap) ∧ W.cell? ⟨sb, 16, none⟩ = some (.int .i64 (P3 : Int)) ∧ W.cell? ⟨sb, 15, none⟩ = some (.int .i64 (P2 : Int))) (fun i => decide (True)) (fun i => ![3, 7, 11].contains i && decide (True)) (fun i => false) [0, 1, 2, 3, 4, 5, 6, 7, 8, 9, 10, 11, 12, 13] (by kernel_rfl) (by kernel_rfl) (fun c a d v w h => by cases d <;> exact h) ⟨r0, r16, r15⟩ ?_
    iterate 3 (apply seqV_pure (ho := rfl) (hr := rfl) (hg := rfl); (intro w'; go_simp; rfl))
    (apply seqV_read (ho := rfl) (hr := rfl) (hp := rfl) (hg := rfl); (rintro w' ⟨q0, q1, q2⟩; go_simp; rfl))
    go_simp
    iterate 3 (apply seqV_pure (ho := rfl) (hr := rfl) (hg := rfl); (intro w'; go_simp; rfl))
    (apply seqV_read (ho := rfl) (hr := rfl) (hp := rfl) (hg := rfl); (rintro w' ⟨q0, q1, q2⟩; go_simp; rfl))
    go_simp
    iterate 3 (apply seqV_pure (ho := rfl) (hr := rfl) (hg := rfl); (intro w'; go_simp; rfl))
    (apply seqV_read (ho := rfl) (hr := rfl) (hp := rfl) (hg := rfl); (rintro w' ⟨q0, q1, q2⟩; go_simp; rfl))
    go_simp
    iterate 2 (apply seqV_pure (ho := rfl) (hr := rfl) (hg := rfl); (intro w'; go_simp; rfl))
    unfold seqV
    go_simp
    go_wp2_with fail
    refine wp_region_seqV (fun W => W.cell? ⟨sb, 9, none⟩ = some (.int .i64 (u : Int))) (fun i => decide (i ≠ 19)) (fun i => ![5, 11, 16].contains i && decide (i ≠ 19)) (fun i => false) [0, 1, 2, 3, 4, 5, 6, 7, 8, 9, 10, 11, 12, 13, 14, 15, 16, 17, 18, 19, 20] (by kernel_rfl) (by kernel_rfl) (fun c a d v w h => by cases d <;> exact h) r9 ?_
    iterate 3 (apply seqV_pure (ho := rfl) (hr := rfl) (hg := rfl); (intro w'; go_simp; rfl))
    go_simp
    iterate 2 (apply seqV_pure (ho := rfl) (hr := rfl) (hg := rfl); (intro w'; go_simp; rfl))
    (apply seqV_read (ho := rfl) (hr := rfl) (hp := rfl) (hg := rfl); (rintro w' q0; go_simp; rfl))
    go_simp
    iterate 3 (apply seqV_pure (ho := rfl) (hr := rfl) (hg := rfl); (intro w'; go_simp; rfl))
    go_simp
    iterate 2 (apply seqV_pure (ho := rfl) (hr := rfl) (hg := rfl); (intro w'; go_simp; rfl))
    (apply seqV_read (ho := rfl) (hr := rfl) (hp := rfl) (hg := rfl); (rintro w' q0; go_simp; rfl))
    go_simp
    iterate 3 (apply seqV_pure (ho := rfl) (hr := rfl) (hg := rfl); (intro w'; go_simp; rfl))
    go_simp
    iterate 1 (apply seqV_pure (ho := rfl) (hr := rfl) (hg := rfl); (intro w'; go_simp; rfl))
    (apply seqV_read (ho := rfl) (hr := rfl) (hp := rfl) (hg := rfl); (rintro w' q0; go_simp; rfl))
    go_simp
    iterate 2 (apply seqV_pure (ho := rfl) (hr := rfl) (hg := rfl); (intro w'; go_simp; rfl))
    refine seqV_do rfl rfl fun K hK => ?_
    go_simp
    refine gv.mono ?_
    rintro e w' ⟨rfl, rfl⟩
    refine hK _ _ (fun _ => r9) ?_
    clear hK K
    go_simp
    iterate 1 (apply seqV_pure (ho := rfl) (hr := rfl) (hg := rfl); (intro w'; go_simp; rfl))
    unfold seqV
    go_simp
    go_wp2_with fail
    go_ret3
    exact ⟨rfl, HF.out _ (Fr.refl _ _).drew.drew.drew.drew.drew⟩
end
end Go.Proofs.YtmhlnijpimjjaaaGreatDoor
