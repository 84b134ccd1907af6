/- An iterator goes on: next. Condition: keys of at most 2^20 bytes. -/
import Derived.Test.YtmhlnijpimjjaaaGreatDoorM24
import Derived.Deep.CutBlock
set_option linter.unusedSimpArgs false
set_option linter.unusedVariables false
namespace Go.Proofs.YtmhlnijpimjjaaaGreatDoor
open Go.RowKit Fmt
/-- What next leaves: the next pair, or the end. -/
def NxPost (w : World) (col : Col) (c ib fb ab db g cap : Nat) (L : Prs) (D B : List Nat) (root : Nat) (T : TypeId) (ea : Addr) (L0 : Prs) (e : Ending) (w' : World) : Prop :=
 ∃ (K0 : List Nat) (col' : Col) (v : Nat → Value) (n : Nat → Nat) (F : Nat → List Value) (sl : List (Option Nat)) (P : Fmt.Way) (a : Nat), It w' col' c ib fb ab db g cap L D B root K0 v n F sl P a ∧ Kp (itc c) col w col' w' ∧
  ((∃ k o L1, L0 = (k, o) :: L1 ∧ e = .returned .nilIface ∧ (nodeOf (getB backN B) a).fin = true ∧ wkey (getB backN B) P = k ∧ wval (getB backN B) P + (nodeOf (getB backN B) a).fout = o ∧ Fmt.ahead (getB backN B) P a 0 = L1) ∨
   (L0 = [] ∧ e = .returned (.iface T (.pointer (some ea))) ∧ P = []))
/-- What next's loop keeps. -/
def NxI (w : World) (col : Col) (c ib fb ab db g cap : Nat) (L : Prs) (D B : List Nat) (root : Nat) (K0 : List Nat) (L0 : Prs) (gm : Nat) (t5 t6 : Value) (wx : World) : Prop :=
 ∃ (q : Nat) (al : Bool) (P : Fmt.Way) (a : Nat) (col1 : Col) (v : Nat → Value) (n : Nat → Nat) (F : Nat → List Value) (sl : List (Option Nat)), It wx col1 c ib fb ab db g cap L D B root K0 v n F sl P a ∧ Kp (itc c) col w col1 wx ∧ t5 = .int .i64 (q : Int) ∧ t6 = .bool al ∧ gm = 2 * aheadSz (getB backN B) P a q + P.length + 1 ∧
  (al = false ∧ Fmt.ahead (getB backN B) P a q = L0 ∨ al = true ∧ q = 0 ∧ (if (nodeOf (getB backN B) a).fin then [(wkey (getB backN B) P, wval (getB backN B) P + (nodeOf (getB backN B) a).fout)] else []) ++ Fmt.ahead (getB backN B) P a 0 = L0)
section
variable {ops : Array Oper} {o : Oper} {a : Act} {K : Act → World → Prop} {Q : Exit → Act → World → Prop} {E : Prop} {w : World}
theorem stepN (hgd : o.guard = none) (s x : Operand) (ho : o.op = .call { callee := .builtin .append, args := #[s, x], argTypes := #[29, 29] }) (hty : o.type = 29) (hs : a.eval s = .slice none 0 0) (hx : a.eval x = .slice none 0 0) (hk : K (a.put o.dst (.slice none 0 0)) w) :
  if Region.wanted o (yielded ops a.tmps) = true then Oper.wp Tryz.prog o a w K Q else E := by
 have hr : (Builtin.append_ #[29, 29] o.type #[.slice none 0 0, .slice none 0 0]).run Tryz.prog w = .ok (.slice none 0 0) w := by rw [hty]; kernel_rfl
 have hw : Region.wanted o (yielded ops a.tmps) = true := by simp [Region.wanted, hgd]
 rw [if_pos hw]
 unfold Oper.wp execOp
 simp only [ho, resolve, invoke, builtin, Sem.run_bind, Sem.run_pure, Result.andThen_ok, List.map_toArray, List.map_cons, List.map_nil, hs, hx, hr]
 exact hk
end
/-- What a push appends. -/
def pxs (sb i q o : Nat) : Nat → Value
 | 0 => .iface 254 (.pointer (some ⟨sb, 0, none⟩))
 | 1 => .int .u8 (i : Int)
 | 2 => .int .i64 (q : Int)
 | 3 => .int .u64 (o : Int)
 | _ => .int .i64 0
/-- What is left of the rows behind a pop. -/
def nsr (r : Nat) : Nat → Nat
 | 0 => r + 1
 | 1 => r
 | 2 => r
 | 3 => r
 | _ => r + 1
section
variable {w : World} {col : Col} {c ib fb ab db gd cap : Nat} {L : Prs} {D B : List Nat} {root : Nat} {K00 : List Nat} {v : Nat → Value} {n : Nat → Nat} {F : Nat → List Value} {sl : List (Option Nat)} {P : Fmt.Way} {a : Nat} {T : TypeId} {ea : Addr}
theorem lit373 (t : Array Value) (h : t.size = 373) : ∃ f : Nat → Value, t = #[f 0, f 1, f 2, f 3, f 4, f 5, f 6, f 7, f 8, f 9, f 10, f 11, f 12, f 13, f 14, f 15, f 16, f 17, f 18, f 19, f 20, f 21, f 22, f 23, f 24, f 25, f 26, f 27, f 28, f 29, f 30, f 31, f 32, f 33, f 34, f 35, f 36, f 37, f 38, f 39, f 40, f 41, f 42, f 43, f 44, f 45, f 46, f 47, f 48, f 49, f 50, f 51, f 52, f 53, f 54, f 55, f 56, f 57, f 58, f 59, f 60, f 61, f 62, f 63, f 64, f 65, f 66, f 67, f 68, f 69, f 70, f 71, f 72, f 73, f 74, f 75, f 76, f 77, f 78, f 79, f 80, f 81, f 82, f 83, f 84, f 85, f 86, f 87, f 88, f 89, f 90, f 91, f 92, f 93, f 94, f 95, f 96, f 97, f 98, f 99, f 100, f 101, f 102, f 103, f 104, f 105, f 106, f 107, f 108, f 109, f 110, f 111, f 112, f 113, f 114, f 115, f 116, f 117, f 118, f 119, f 120, f 121, f 122, f 123, f 124, f 125, f 126, f 127, f 128, f 129, f 130, f 131, f 132, f 133, f 134, f 135, f 136, f 137, f 138, f 139, f 140, f 141, f 142, f 143, f 144, f 145, f 146, f 147, f 148, f 149, f 150, f 151, f 152, f 153, f 154, f 155, f 156, f 157, f 158, f 159, f 160, f 161, f 162, f 163, f 164, f 165, f 166, f 167, f 168, f 169, f 170, f 171, f 172, f 173, f 174, f 175, f 176, f 177, f 178, f 179, f 180, f 181, f 182, f 183, f 184, f 185, f 186, f 187, f 188, f 189, f 190, f 191, f 192, f 193, f 194, f 195, f 196, f 197, f 198, f 199, f 200, f 201, f 202, f 203, f 204, f 205, f 206, f 207, f 208, f 209, f 210, f 211, f 212, f 213, f 214, f 215, f 216, f 217, f 218, f 219, f 220, f 221, f 222, f 223, f 224, f 225, f 226, f 227, f 228, f 229, f 230, f 231, f 232, f 233, f 234, f 235, f 236, f 237, f 238, f 239, f 240, f 241, f 242, f 243, f 244, f 245, f 246, f 247, f 248, f 249, f 250, f 251, f 252, f 253, f 254, f 255, f 256, f 257, f 258, f 259, f 260, f 261, f 262, f 263, f 264, f 265, f 266, f 267, f 268, f 269, f 270, f 271, f 272, f 273, f 274, f 275, f 276, f 277, f 278, f 279, f 280, f 281, f 282, f 283, f 284, f 285, f 286, f 287, f 288, f 289, f 290, f 291, f 292, f 293, f 294, f 295, f 296, f 297, f 298, f 299, f 300, f 301, f 302, f 303, f 304, f 305, f 306, f 307, f 308, f 309, f 310, f 311, f 312, f 313, f 314, f 315, f 316, f 317, f 318, f 319, f 320, f 321, f 322, f 323, f 324, f 325, f 326, f 327, f 328, f 329, f 330, f 331, f 332, f 333, f 334, f 335, f 336, f 337, f 338, f 339, f 340, f 341, f 342, f 343, f 344, f 345, f 346, f 347, f 348, f 349, f 350, f 351, f 352, f 353, f 354, f 355, f 356, f 357, f 358, f 359, f 360, f 361, f 362, f 363, f 364, f 365, f 366, f 367, f 368, f 369, f 370, f 371, f 372] := by
 refine ⟨fun i : Nat => (t[i]! : Value), ?_⟩
 have h1 : t.toList = (List.range 373).map (fun i : Nat => (t[i]! : Value)) := by
  apply List.ext_getElem
  ·simp [h]
  ·intro i h1 h2
   have hi : i < t.size := by simpa using h1
   simp [hi]
 apply Array.ext'
 rw [h1]
 generalize (fun i : Nat => (t[i]! : Value)) = f
 kernel_rfl
/-- The key at hand is kept: what the world is then. -/
theorem It.left' (h : It w col c ib fb ab db gd cap L D B root K00 v n F sl P a) {A5 : Option Addr} {k0 c5 : Nat} (h5 : v 5 = .slice A5 k0 c5) {w2 : World} {v' : Value} {full' : List Value} (hr : RowF w2 5 1 v' P.length full') (hF : Fr (fun k => (Value.slice A5 0 c5).ownBlock = some k) w w2)
  (hc : (v'.ownBlock = (Value.slice A5 0 c5).ownBlock ∧ full' = (F 5).take (0 * 1) ++ u8s (wkey (getB backN B) P) ++ (F 5).drop (P.length * 1)) ∨ (v'.ownBlock = some w.heap.size ∧ ∃ k, full' = (F 5).take (0 * 1) ++ u8s (wkey (getB backN B) P) ++ zeros #[.int .u8 0] k)) :
  ∃ col' v1 n1 F1, It (w2.setCell ⟨ib, 9, none⟩ v') col' c ib fb ab db gd cap L D B root (wkey (getB backN B) P) v1 n1 F1 sl P a ∧ Kp (itc c) col w col' (w2.setCell ⟨ib, 9, none⟩ v') := by
 have ho : (Value.slice A5 0 c5).ownBlock = (v 5).ownBlock := by rw [h5]; cases A5 <;> rfl
 rw [ho] at hF hc
 obtain ⟨hI, hK⟩ := h.ic.app (k := 5) (by decide) hr hF (by
  rcases hc with ⟨e, _⟩ | ⟨e, _⟩
  ·exact .inl e
  ·exact .inr ⟨_, e, Nat.le_refl _⟩)
 have hl : (wkey (getB backN B) P).length = P.length := by simp [wkey]
 refine ⟨_, _, _, _, h.left hI (hK.mono fun d e => by unfold itc; omega) (hK.mono fun d e => by omega) (fun k hk => upd_ne' _ _ hk) (fun k hk => upd_ne' _ _ hk) (by rw [upd_same', hl]) (fun i x hx => ?_), hK.mono fun d e => by unfold itc; omega⟩
 rw [upd_same']
 have e : ∀ T, ((F 5).take (0 * 1) ++ u8s (wkey (getB backN B) P) ++ T)[i]? = some (.int .u8 (x : Int)) := fun T => by
  rw [Nat.zero_mul, List.take_zero, List.nil_append, List.getElem?_append_left (by rw [u8s_len]; exact (List.getElem?_eq_some_iff.1 hx).1)]
  exact u8s_at hx
 rcases hc with ⟨_, e2⟩ | ⟨_, k, e2⟩
 ·rw [e2]; exact e _
 ·rw [e2]; exact e _
set_option maxHeartbeats 4000000 in
set_option maxRecDepth 100000 in
theorem next_calls (h : It w col c ib fb ab db gd cap L D B root K00 v n F sl P a) (hT : Tabs w col) (hD : Done w col T ea) (hL : ∀ p, p ∈ L → p.1.length ≤ 1048576) (hk : ∀ p, p ∈ Fmt.ahead (getB backN B) P a 0 → klt (wkey (getB backN B) P) p.1) (hnil : P = [] → v 1 = .slice none 0 0 ∧ v 5 = .slice none 0 0) (hlen : P.length ≤ 1048576) :
  Calls Tryz.prog 91 #[.pointer (some ⟨ib, 0, none⟩), .int .i64 (-1)] w fun e w' => NxPost w col c ib fb ab db gd cap L D B root T ea (Fmt.ahead (getB backN B) P a 0) e w' := by
 have r9 := h.ic.blk.blk.cell 9 rfl
 have r5 := h.ic.blk.blk.cell 5 rfl
 have z9 := h.ic.blk.blk.frz 9
 have HLn := Lib.hid hlen
 have HH := Lib.hid (And.intro h (And.intro hT (And.intro hD (And.intro hL hk))))
 obtain ⟨L0, hL0⟩ : ∃ L0, Hid (Fmt.ahead (getB backN B) P a 0 = L0) := ⟨_, Lib.hid rfl⟩
 rw [hL0.out]
 clear hT hD hL hk
 go_enter Tryz.func91, Tryz.ntmps91
 go_upto_region 1 with fail
 apply wp_scope_straight
 apply wp_seq_k
 intro K1 hK1
 go_cut [] from 23 to 35 (fun wx => ∃ col1 v1 n1 F1, It wx col1 c ib fb ab db gd cap L D B root (wkey (getB backN B) P) v1 n1 F1 sl P a ∧ Kp (itc c) col w col1 wx)
 case first =>
  clear hK1
  rcases Nat.eq_zero_or_pos P.length with hm0 | hm0
  ·obtain ⟨hv1, hv5⟩ := hnil (List.length_eq_zero_iff.1 hm0)
   rw [hv5] at r9
   rw [hv1] at r5
   have HE : Hid (∃ col1 v1 n1 F1, It (w.drew.setCell ⟨ib, 9, none⟩ (.slice none 0 0)) col1 c ib fb ab db gd cap L D B root (wkey (getB backN B) P) v1 n1 F1 sl P a ∧ Kp (itc c) col w col1 (w.drew.setCell ⟨ib, 9, none⟩ (.slice none 0 0))) := Lib.hid (by
    have hP := List.length_eq_zero_iff.1 hm0
    obtain ⟨col', v1, n1, F1, k1, k2⟩ := h.drew.left' hv5 (w2 := w.drew) (v' := .slice none 0 0) (full' := F 5) (by
     rcases (h.drew.ic.row 5 (by decide)).row with ⟨_, e2, e3⟩ | ⟨_, _, e, _⟩
     ·exact .inl ⟨rfl, hm0, e3⟩
     ·rw [hv5] at e; cases e) (Fr.refl _ _) (.inl ⟨rfl, by rw [hm0, hP]; simp [wkey, u8s]⟩)
    exact ⟨col', v1, n1, F1, k1, (Kp.refl _ col w).drew.trans k2⟩)
   clear h hlen hnil hv1 hv5
   go_wp2_with fail
   refine wp_region_seqV (fun W => W.cell? ⟨ib, 9, none⟩ = some (.slice none 0 0) ∧ W.cell? ⟨ib, 5, none⟩ = some (.slice none 0 0)) (fun i => decide (i ≠ 10 ∧ i ≠ 13)) (fun i => ![4, 9].contains i && decide (i ≠ 10 ∧ i ≠ 13)) (fun i => decide (i = 13)) [0, 1, 2, 3, 4, 5, 6, 7, 8, 9, 10, 11, 12, 13] (by kernel_rfl) (by kernel_rfl) (fun c a d v w h => by cases d <;> exact h) ⟨r9, r5⟩ ?_
   iterate 3 (apply seqV_pure (ho := rfl) (hr := rfl) (hg := rfl); (intro w'; go_simp; rfl))
   go_simp
   iterate 1 (apply seqV_pure (ho := rfl) (hr := rfl) (hg := rfl); (intro w'; go_simp; rfl))
   (apply seqV_read (ho := rfl) (hr := rfl) (hp := rfl) (hg := rfl); (rintro w' ⟨q0, q1⟩; go_simp; rfl))
   go_simp
   iterate 3 (apply seqV_pure (ho := rfl) (hr := rfl) (hg := rfl); (intro w'; go_simp; rfl))
   go_simp
   iterate 1 (apply seqV_pure (ho := rfl) (hr := rfl) (hg := rfl); (intro w'; go_simp; rfl))
   (apply seqV_read (ho := rfl) (hr := rfl) (hp := rfl) (hg := rfl); (rintro w' ⟨q0, q1⟩; go_simp; rfl))
   go_simp
   refine seqV_do rfl rfl fun K hK => ?_
   refine stepN (by rfl) _ _ (by rfl) (by rfl) (by rfl) (by rfl) ?_
   refine hK _ _ (fun _ => ⟨r9, r5⟩) ?_
   clear hK K
   go_simp
   iterate 2 (apply seqV_pure (ho := rfl) (hr := rfl) (hg := rfl); (intro w'; go_simp; rfl))
   refine seqV_do rfl rfl fun K hK => ?_
   go_simp
   refine hK _ _ (fun h => by cases h) ?_
   clear hK K
   unfold seqV
   go_simp
   go_wp2_with fail
   go_meet
   exact HE.out
  ·obtain ⟨x0, hx0⟩ : ∃ x, P[0]? = some x := ⟨_, List.getElem?_eq_getElem hm0⟩
   obtain ⟨g1, c1, q1, q2, q3, q4, q5, q6, q7⟩ := (h.ic.row 1 (by decide)).row.at_ (h.f1 0 x0 hx0)
   rw [h.n1] at q1
   rw [q1] at r5
   obtain ⟨A5, c5, s1, s2, s3, s4⟩ := (h.ic.row 5 (by decide)).row.slc
   rw [s1] at r9
   have hrow0 : RowF w.drew 5 1 (.slice A5 0 c5) 0 (F 5) := (h.drew.ic.row 5 (by decide)).row.cut (Nat.zero_le _) A5 c5 s1
   have HQ := Lib.hid (fun w2 v' full' hr hF hc => h.drew.left' s1 (w2 := w2) (v' := v') (full' := full') hr hF hc)
   have hblk := Lib.hid h.drew.ic.blk.blk
   have hnl := Lib.hid (show (u8s (wkey (getB backN B) P)).length = P.length by rw [u8s_len]; simp [wkey])
   have hg1 := h.drew.ic.row 1 (by decide)
   have hnews := Lib.hid (show ∀ j u, (u8s (wkey (getB backN B) P))[j]? = some u → w.drew.cell? ((⟨g1, 0, none⟩ : Addr).add j) = some u from fun j u hj => by
    rw [Addr.add_mid]
    simp only [u8s, List.getElem?_map, Option.map_eq_some_iff, wkey] at hj
    obtain ⟨x, ⟨y, hy, rfl⟩, rfl⟩ := hj
    rw [Nat.zero_add]
    exact q5.cell j (h.f1 j y hy))
   have hone := Lib.hid (u8s_one (wkey (getB backN B) P))
   rw [hL0.out] at *
   generalize hk0 : n 5 = k0 at *
   generalize u8s (wkey (getB backN B) P) = news at *
   have HM := Lib.hid hlen
   have HV5 := Lib.hid s1
   have HV1 := Lib.hid q1
   generalize hm : P.length = m at *
   clear h hlen hnil HH q2 q3 q4 q5 q6 q7 s1 s2 s3 s4 hg1 hk0 q1 hm hx0 HLn
   have ecap : (0 : Int) ≤ (c5 : Int) := by omega
   have hMm := HM.out
   cases A5 with
   | none =>
    have hrow : RowF w.drew 5 1 (.slice none 0 c5) 0 (F 5) := hrow0
    clear hrow0
    go_wp2_with fail
    refine wp_region_seqV (fun W => W.cell? ⟨ib, 9, none⟩ = some (.slice none k0 c5) ∧ W.cell? ⟨ib, 5, none⟩ = some (.slice (some ⟨g1, 0, none⟩) m c1)) (fun i => decide (i ≠ 10 ∧ i ≠ 13)) (fun i => ![4, 9].contains i && decide (i ≠ 10 ∧ i ≠ 13)) (fun i => decide (i = 13)) [0, 1, 2, 3, 4, 5, 6, 7, 8, 9, 10, 11, 12, 13] (by kernel_rfl) (by kernel_rfl) (fun c a d v w h => by cases d <;> exact h) ⟨r9, r5⟩ ?_
    iterate 3 (apply seqV_pure (ho := rfl) (hr := rfl) (hg := rfl); (intro w'; go_simp; rfl))
    go_simp
    iterate 1 (apply seqV_pure (ho := rfl) (hr := rfl) (hg := rfl); (intro w'; go_simp; rfl))
    (apply seqV_read (ho := rfl) (hr := rfl) (hp := rfl) (hg := rfl); (rintro w' ⟨q0, q1⟩; go_simp; rfl))
    go_simp
    iterate 3 (apply seqV_pure (ho := rfl) (hr := rfl) (hg := rfl); (intro w'; go_simp; rfl))
    go_simp
    iterate 1 (apply seqV_pure (ho := rfl) (hr := rfl) (hg := rfl); (intro w'; go_simp; rfl))
    (apply seqV_read (ho := rfl) (hr := rfl) (hp := rfl) (hg := rfl); (rintro w' ⟨q0, q1⟩; go_simp; rfl))
    go_simp
    refine seqV_do rfl rfl fun K hK => ?_
    refine stepF (by rfl) _ _ _ (by rfl) 5 (.int .u8 0) 1 1 (by kernel_rfl) (by kernel_rfl) rfl _ 0 _ (by rfl) hrow ⟨g1, 0, none⟩ m c1 news (by rfl) (by rw [Nat.mul_one]; exact hnl.out) hnews.out hone.out hm0 (by simp only [maxLen]; omega) (by omega) ?_
    intro v' w2 full' hr hF hc
    obtain ⟨A', cap', rfl⟩ := rowv hr
    rw [Nat.zero_add] at hr hc ⊢
    have u2 := hblk.out.fr hF (rowf_ne hrow hblk.out (by decide))
    have s9 := u2.cell 9 rfl
    have s5 := u2.cell 5 rfl
    rw [HV5.out] at s9
    rw [HV1.out] at s5
    have y9 := u2.frz 9
    have HE := Lib.hid (HQ.out _ _ _ hr hF hc)
    clear hF hr hc u2
    refine hK _ _ (fun _ => ⟨s9, s5⟩) ?_
    clear hK K
    go_simp
    iterate 2 (apply seqV_pure (ho := rfl) (hr := rfl) (hg := rfl); (intro w'; go_simp; rfl))
    refine seqV_do rfl rfl fun K hK => ?_
    go_simp
    refine hK _ _ (fun h => by cases h) ?_
    clear hK K
    unfold seqV
    go_simp
    go_wp2_with fail
    go_meet
    obtain ⟨col', v1, n1, F1, k1, k2⟩ := HE.out
    exact ⟨col', v1, n1, F1, k1, (Kp.refl _ col w).drew.trans k2⟩
   | some A5 =>
    obtain ⟨g5, rfl⟩ : ∃ g5, A5 = ⟨g5, 0, none⟩ := by
     rcases hrow0 with ⟨e, _⟩ | ⟨g5, _, e, _⟩
     ·cases e
     ·injection e with e; injection e with e; exact ⟨g5, e⟩
    have hrow : RowF w.drew 5 1 (.slice (some ⟨g5, 0, none⟩) 0 c5) 0 (F 5) := hrow0
    clear hrow0
    go_wp2_with fail
    refine wp_region_seqV (fun W => W.cell? ⟨ib, 9, none⟩ = some (.slice (some ⟨g5, 0, none⟩) k0 c5) ∧ W.cell? ⟨ib, 5, none⟩ = some (.slice (some ⟨g1, 0, none⟩) m c1)) (fun i => decide (i ≠ 10 ∧ i ≠ 13)) (fun i => ![4, 9].contains i && decide (i ≠ 10 ∧ i ≠ 13)) (fun i => decide (i = 13)) [0, 1, 2, 3, 4, 5, 6, 7, 8, 9, 10, 11, 12, 13] (by kernel_rfl) (by kernel_rfl) (fun c a d v w h => by cases d <;> exact h) ⟨r9, r5⟩ ?_
    iterate 3 (apply seqV_pure (ho := rfl) (hr := rfl) (hg := rfl); (intro w'; go_simp; rfl))
    go_simp
    iterate 1 (apply seqV_pure (ho := rfl) (hr := rfl) (hg := rfl); (intro w'; go_simp; rfl))
    (apply seqV_read (ho := rfl) (hr := rfl) (hp := rfl) (hg := rfl); (rintro w' ⟨q0, q1⟩; go_simp; rfl))
    go_simp
    iterate 3 (apply seqV_pure (ho := rfl) (hr := rfl) (hg := rfl); (intro w'; go_simp; rfl))
    go_simp
    iterate 1 (apply seqV_pure (ho := rfl) (hr := rfl) (hg := rfl); (intro w'; go_simp; rfl))
    (apply seqV_read (ho := rfl) (hr := rfl) (hp := rfl) (hg := rfl); (rintro w' ⟨q0, q1⟩; go_simp; rfl))
    go_simp
    refine seqV_do rfl rfl fun K hK => ?_
    refine stepF (by rfl) _ _ _ (by rfl) 5 (.int .u8 0) 1 1 (by kernel_rfl) (by kernel_rfl) rfl _ 0 _ (by rfl) hrow ⟨g1, 0, none⟩ m c1 news (by rfl) (by rw [Nat.mul_one]; exact hnl.out) hnews.out hone.out hm0 (by simp only [maxLen]; omega) (by omega) ?_
    intro v' w2 full' hr hF hc
    obtain ⟨A', cap', rfl⟩ := rowv hr
    rw [Nat.zero_add] at hr hc ⊢
    have u2 := hblk.out.fr hF (rowf_ne hrow hblk.out (by decide))
    have s9 := u2.cell 9 rfl
    have s5 := u2.cell 5 rfl
    rw [HV5.out] at s9
    rw [HV1.out] at s5
    have y9 := u2.frz 9
    have HE := Lib.hid (HQ.out _ _ _ hr hF hc)
    clear hF hr hc u2
    refine hK _ _ (fun _ => ⟨s9, s5⟩) ?_
    clear hK K
    go_simp
    iterate 2 (apply seqV_pure (ho := rfl) (hr := rfl) (hg := rfl); (intro w'; go_simp; rfl))
    refine seqV_do rfl rfl fun K hK => ?_
    go_simp
    refine hK _ _ (fun h => by cases h) ?_
    clear hK K
    unfold seqV
    go_simp
    go_wp2_with fail
    go_meet
    obtain ⟨col', v1, n1, F1, k1, k2⟩ := HE.out
    exact ⟨col', v1, n1, F1, k1, (Kp.refl _ col w).drew.trans k2⟩
 case rest =>
 obtain ⟨col1, v1, n1, F1, hI, hK⟩ := hcut
 have HS : Hid (NxI w col c ib fb ab db gd cap L D B root (wkey (getB backN B) P) L0 (2 * aheadSz (getB backN B) P a 0 + P.length + 1) (.int .i64 ((0 : Nat) : Int)) (.bool false) wc) :=
  Lib.hid ⟨0, false, P, a, col1, v1, n1, F1, sl, hI, hK, rfl, rfl, rfl, .inl ⟨rfl, hL0.out⟩⟩
 obtain ⟨m0, hm0⟩ : ∃ m0, Hid (2 * aheadSz (getB backN B) P a 0 + P.length + 1 = m0) := ⟨_, Lib.hid rfl⟩
 obtain ⟨K0, hK0⟩ : ∃ K0, Hid (wkey (getB backN B) P = K0) := ⟨_, Lib.hid rfl⟩
 rw [hm0.out, hK0.out] at HS
 clear hI hK h hlen hnil r9 r5 z9
 obtain ⟨HHp, hHHp⟩ : ∃ p : Prop, Hid (p ∧ (p → Tabs w col ∧ Done w col T ea ∧ (∀ x, x ∈ L → x.1.length ≤ 1048576) ∧ (∀ x, x ∈ L0 → klt K0 x.1) ∧ (∀ x, x ∈ K0 → x < 256))) := ⟨_, Lib.hid ⟨trivial, fun _ => ⟨HH.out.2.1, HH.out.2.2.1, HH.out.2.2.2.1, fun x hx => by rw [← hK0.out]; exact HH.out.2.2.2.2 x (by rw [hL0.out]; exact hx), by rw [← hK0.out]; exact HH.out.1.keyLt⟩⟩⟩
 have HX := Lib.hid (hHHp.out.2 hHHp.out.1)
 clear hHHp HHp HH hL0 hK0 hm0 HLn
 go_wp2_with fail
 apply wp_label
 go_wp2_with fail
 refine wp_loop_ghost_k (fun g A wx => A.defers = [] ∧ A.tmps.size = 373 ∧ A.tmps[0]? = some (.pointer (some ⟨ib, 0, none⟩)) ∧ ∃ t5 t6, A.tmps[5]? = some t5 ∧ A.tmps[6]? = some t6 ∧ NxI w col c ib fb ab db gd cap L D B root K0 L0 g t5 t6 wx) m0 ⟨rfl, rfl, rfl, _, _, rfl, rfl, HS.out⟩ ?_
 clear HS
 rintro g ⟨tm, df⟩ wr ⟨hd, hsz, h0, t5, t6, h5, h6, hrel⟩ J KO hJ hK'
 simp only at hd hsz h0 h5 h6
 subst hd
 obtain ⟨f, rfl⟩ := lit373 tm hsz
 obtain ⟨q, al, P, a, col1, v, n, F, sl, hI, hK, rfl, rfl, rfl, hal⟩ := hrel
 have h0' : f 0 = .pointer (some ⟨ib, 0, none⟩) := Option.some.inj h0
 have h5' : f 5 = .int .i64 (q : Int) := Option.some.inj h5
 have h6' : f 6 = .bool al := Option.some.inj h6
 rw [h0', h5', h6']
 clear h0 h5 h6 h0' h5' h6' hsz
 have hb := hI.ic.blk.blk
 obtain ⟨g0, c0, b, e1, e2, e3, e4, e5, e6, e7, rt, hs⟩ := hI.top
 have r4 := hb.cell 4 rfl
 rw [e1] at r4
 have r8 := hb.cell 8 rfl
 obtain ⟨g4, c4, s1, s2, s3, s4, s5, s6, s7⟩ := (hI.ic.row 4 (by decide)).row.at_ (hI.f4 P.length (Nat.le_refl _))
 rw [hI.n4] at s1
 rw [s1] at r8
 have r1 := hb.cell 1 rfl
 have haD := hI.addr
 have hfc := fin_calls (hs.fr (Fr.refl (fun _ => False) wr).drew.drew (fun h => h))
 have hK2 : Kp (itc c) col w col1 wr.drew.drew := hK.drew.drew
 have hI2 := hI.drew.drew
 have HI := Lib.hid (And.intro hI2 hK2)
 have HSt := Lib.hid (hs.fr (Fr.refl (fun _ => False) wr).drew.drew (fun h => h))
 have HV0 := Lib.hid (And.intro e1 (And.intro e2 (And.intro e3 (And.intro e4 e5))))
 have HA := Lib.hid hal
 obtain ⟨m, hm⟩ : ∃ m, Hid (P.length = m) := ⟨_, Lib.hid rfl⟩
 rw [hm.out] at r4 r8 rt s6 e2 e5 hK'
 obtain ⟨gm, hgm⟩ : ∃ gm, Hid (2 * aheadSz (getB backN B) P a q + m + 1 = gm) := ⟨_, Lib.hid rfl⟩
 rw [hgm.out] at hK'
 obtain ⟨m1, hm1⟩ : ∃ m1, Hid (m + 1 = m1) := ⟨_, Lib.hid rfl⟩
 have hm1' := hm1.out
 rw [hm1.out] at r4 r8 e2
 unfold maxLen at e3
 have f1 : IntKind.i64.wrap ((m1 : Int) - 1) = (m : Int) := by rw [IntWalk.i64_in _ (by omega)]; omega
 have f2 : (m : Int) < (m1 : Int) := by omega
 have i1 := mt_fin ⟨b, 0, none⟩
 have i2 := nt_fin ⟨b, 0, none⟩
 have i3 := mt_ism ⟨ab, 0, none⟩
 have i4 := nt_ism ⟨ab, 0, none⟩
 have hism := fun w z => al_ism w ⟨ab, 0, none⟩ z
 have he3 := Lib.hid e3
 clear hb hI hI2 hK hK2 e1 e3 e4 e5 e6 e7 hs s1 s2 s3 s4 s5 s7 haD hal hm1'
 go_upto_region 4 with fail
 apply wp_scope_straight
 apply wp_seq_k
 intro K4 hK4
 go_cut [7] from 38 to 49 (fun s wx => s = .iface 254 (.pointer (some ⟨b, 0, none⟩)) ∧ wx = wr.drew)
 case first =>
  clear hK4
  refine wp_region_seqV (fun W => W.cell? ⟨ib, 4, none⟩ = some (.slice (some ⟨g0, 0, none⟩) m1 c0) ∧ W.cell? ⟨g0, m, none⟩ = some (.iface 254 (.pointer (some ⟨b, 0, none⟩)))) (fun i => decide (True)) (fun i => ![3, 7, 11].contains i && decide (True)) (fun i => false) [0, 1, 2, 3, 4, 5, 6, 7, 8, 9, 10, 11, 12] (by kernel_rfl) (by kernel_rfl) (fun c a d v w h => by cases d <;> exact h) ⟨r4, rt⟩ ?_
  iterate 3 (apply seqV_pure (ho := rfl) (hr := rfl) (hg := rfl); (intro w'; go_simp; rfl))
  (apply seqV_read (ho := rfl) (hr := rfl) (hp := rfl) (hg := rfl); (rintro w' ⟨q0, q1⟩; go_simp; rfl))
  go_simp
  iterate 3 (apply seqV_pure (ho := rfl) (hr := rfl) (hg := rfl); (intro w'; go_simp; rfl))
  (apply seqV_read (ho := rfl) (hr := rfl) (hp := rfl) (hg := rfl); (rintro w' ⟨q0, q1⟩; go_simp; rfl))
  go_simp
  iterate 3 (apply seqV_pure (ho := rfl) (hr := rfl) (hg := rfl); (intro w'; go_simp; rfl))
  (apply seqV_read (ho := rfl) (hr := rfl) (hp := rfl) (hg := rfl); (rintro w' ⟨q0, q1⟩; go_simp; rfl))
  go_simp
  iterate 1 (apply seqV_pure (ho := rfl) (hr := rfl) (hg := rfl); (intro w'; go_simp; rfl))
  unfold seqV
  go_simp
  go_wp2_with fail
  go_meet
  exact ⟨rfl, rfl⟩
 case rest =>
 obtain ⟨rfl, rfl⟩ := hcut
 go_upto_region 5 with fail
 rename_i K5 hK5
 go_cut [8] from 50 to 61 (fun s wx => s = .int .i64 0 ∧ wx = wr.drew.drew)
 case first =>
  clear hK5
  refine wp_region_seqV (fun W => W.cell? ⟨ib, 8, none⟩ = some (.slice (some ⟨g4, 0, none⟩) m1 c4) ∧ W.cell? ⟨g4, m, none⟩ = some (.int .i64 0)) (fun i => decide (True)) (fun i => ![3, 7, 11].contains i && decide (True)) (fun i => false) [0, 1, 2, 3, 4, 5, 6, 7, 8, 9, 10, 11, 12] (by kernel_rfl) (by kernel_rfl) (fun c a d v w h => by cases d <;> exact h) ⟨r8, s6⟩ ?_
  iterate 3 (apply seqV_pure (ho := rfl) (hr := rfl) (hg := rfl); (intro w'; go_simp; rfl))
  (apply seqV_read (ho := rfl) (hr := rfl) (hp := rfl) (hg := rfl); (rintro w' ⟨q0, q1⟩; go_simp; rfl))
  go_simp
  iterate 3 (apply seqV_pure (ho := rfl) (hr := rfl) (hg := rfl); (intro w'; go_simp; rfl))
  (apply seqV_read (ho := rfl) (hr := rfl) (hp := rfl) (hg := rfl); (rintro w' ⟨q0, q1⟩; go_simp; rfl))
  go_simp
  iterate 3 (apply seqV_pure (ho := rfl) (hr := rfl) (hg := rfl); (intro w'; go_simp; rfl))
  (apply seqV_read (ho := rfl) (hr := rfl) (hp := rfl) (hg := rfl); (rintro w' ⟨q0, q1⟩; go_simp; rfl))
  go_simp
  iterate 1 (apply seqV_pure (ho := rfl) (hr := rfl) (hg := rfl); (intro w'; go_simp; rfl))
  unfold seqV
  go_simp
  go_wp2_with fail
  go_meet
  exact ⟨rfl, rfl⟩
 case rest =>
 obtain ⟨rfl, rfl⟩ := hcut
 have r1' : wr.drew.drew.cell? ⟨ib, 1, none⟩ = some (.iface 186 (.pointer (some ⟨ab, 0, none⟩))) := r1
 clear r4 rt r8 s6 r1
 obtain ⟨W, hW⟩ : ∃ W, Hid (wr.drew.drew = W) := ⟨_, Lib.hid rfl⟩
 rw [hW.out] at hfc r1' HI HSt ⊢
 obtain ⟨s, hsn⟩ : ∃ s, Hid (nodeOf (getB backN B) a = s) := ⟨_, Lib.hid rfl⟩
 rw [hsn.out] at hfc HA HSt
 obtain ⟨fi, hfi⟩ : ∃ fi, Hid (s.fin = fi) := ⟨_, Lib.hid rfl⟩
 rw [hfi.out] at hfc HA
 go_upto_region 6 with fail
 rename_i K6 hK6
 go_cut [74] from 62 to 74 (fun s wx => s = .bool (fi && al) ∧ wx = W)
 case first =>
  clear hK6
  cases fi with
  | false =>
   go_wp2_with fail
   refine hfc.mono ?_
   rintro e w' ⟨rfl, rfl⟩
   go_wp2_with fail
   go_meet
   exact ⟨rfl, rfl⟩
  | true =>
   go_wp2_with fail
   refine hfc.mono ?_
   rintro e w' ⟨rfl, rfl⟩
   go_wp2_with fail
   refine (hism _ _).mono ?_
   rintro e w' ⟨rfl, rfl⟩
   go_wp2_with fail
   go_meet
   exact ⟨rfl, rfl⟩
 case rest =>
 obtain ⟨rfl, rfl⟩ := hcut
 rcases (by cases fi <;> cases al <;> simp : (fi && al) = true ∧ fi = true ∧ al = true ∨ (fi && al) = false ∧ (fi = false ∨ al = false)) with ⟨hfa, rfl, rfl⟩ | ⟨hfa, hor⟩
 ·rw [hfa]
  have hL1 : L0 = (wkey (getB backN B) P, wval (getB backN B) P + s.fout) :: Fmt.ahead (getB backN B) P a 0 := by
   rcases HA.out with ⟨h1, _⟩ | ⟨_, _, h1⟩
   ·cases h1
   ·rw [← h1]; rfl
  have hcm : cmpL (wkey (getB backN B) P) K0 = 1 := (cmpL_swap _ _).2 (HX.out.2.2.2.1 (wkey (getB backN B) P, wval (getB backN B) P + s.fout) (by rw [hL1]; simp))
  have hc47 : ∀ nq, Calls Tryz.prog 47 #[v 1, v 5] (wc.drewN nq).drew fun e w' => e = .returned (.int .i64 1) ∧ w' = (wc.drewN nq).drew := fun nq => by
   have hF := ((Fr.refl (fun _ => False) wc).drewN nq).drew
   have := compare_calls (HI.out.1.key.fr hF) (HI.out.1.keyLeft.fr hF) HI.out.1.keyLt HX.out.2.2.2.2
   rw [hcm] at this; exact this
  have HE : Hid (∀ nq, NxPost w col c ib fb ab db gd cap L D B root T ea L0 (.returned .nilIface) (wc.drewN nq).drew) := Lib.hid (fun nq => ⟨K0, _, v, n, F, sl, P, a, HI.out.1.frF ((Fr.refl (fun _ => False) wc).drewN nq).drew, HI.out.2.trans (Kp.itF ((Fr.refl (fun _ => False) wc).drewN nq).drew), .inl ⟨_, _, _, hL1, rfl, by rw [hsn.out]; exact hfi.out, rfl, by rw [hsn.out], rfl⟩⟩)
  have r3 := HI.out.1.ic.blk.blk.cell 3 rfl
  have r5 := HI.out.1.ic.blk.blk.cell 5 rfl
  have r9 := HI.out.1.ic.blk.blk.cell 9 rfl
  obtain ⟨v1, hv1⟩ : ∃ v1, Hid (v 1 = v1) := ⟨_, Lib.hid rfl⟩
  obtain ⟨v5, hv5⟩ : ∃ v5, Hid (v 5 = v5) := ⟨_, Lib.hid rfl⟩
  have r5' : wc.cell? ⟨ib, 5, none⟩ = some v1 := by rw [← hv1.out]; exact r5
  have r9' : wc.cell? ⟨ib, 9, none⟩ = some v5 := by rw [← hv5.out]; exact r9
  rw [hv1.out, hv5.out] at hc47
  have hnn := nil_neq
  have hta := fun w => ta_fz ⟨ab, 0, none⟩ w
  have i5 := fun nq : Nat => (show (wc.drewN (nq + 1)).cell? ⟨ib, 1, none⟩ = some (.iface 186 (.pointer (some ⟨ab, 0, none⟩))) from r1')
  refine hK6 _ _ ?_
  clear hL1 hcm hfa r5 r9 hK6 hK' hJ
  go_wp2_with fail
  go_quiet (fail)
  rename_i nq
  have j5 : (wc.drewN nq).cell? ⟨ib, 5, none⟩ = some v1 := r5'
  have j9 : (wc.drewN nq).cell? ⟨ib, 9, none⟩ = some v5 := r9'
  have k1 := i5 nq
  have hc47 := hc47 nq
  have HE := Lib.hid (HE.out nq)
  clear r3 r5' r9' i5
  go_wp2_with fail
  refine wp_region_seqV (fun W => W.cell? ⟨ib, 5, none⟩ = some v1 ∧ W.cell? ⟨ib, 9, none⟩ = some v5) (fun i => decide (i ≠ 8)) (fun i => ![3, 7].contains i && decide (i ≠ 8)) (fun i => false) [0, 1, 2, 3, 4, 5, 6, 7, 8, 9] (by kernel_rfl) (by kernel_rfl) (fun c a d v w h => by cases d <;> exact h) ⟨j5, j9⟩ ?_
  iterate 3 (apply seqV_pure (ho := rfl) (hr := rfl) (hg := rfl); (intro w'; go_simp; rfl))
  (apply seqV_read (ho := rfl) (hr := rfl) (hp := rfl) (hg := rfl); (rintro w' ⟨q0, q1⟩; go_simp; rfl))
  go_simp
  iterate 3 (apply seqV_pure (ho := rfl) (hr := rfl) (hg := rfl); (intro w'; go_simp; rfl))
  (apply seqV_read (ho := rfl) (hr := rfl) (hp := rfl) (hg := rfl); (rintro w' ⟨q0, q1⟩; go_simp; rfl))
  go_simp
  refine seqV_do rfl rfl fun K hK => ?_
  go_simp
  refine hc47.mono ?_
  rintro e w' ⟨rfl, rfl⟩
  refine hK _ _ (fun _ => ⟨j5, j9⟩) ?_
  clear hK K
  go_simp
  iterate 1 (apply seqV_pure (ho := rfl) (hr := rfl) (hg := rfl); (intro w'; go_simp; rfl))
  unfold seqV
  go_simp
  go_wp2_with fail
  go_ret
  exact HE.out
 ·rw [hfa]
  have hL1 : Fmt.ahead (getB backN B) P a q = L0 := by
   rcases HA.out with ⟨_, h1⟩ | ⟨h2, h3, h1⟩
   ·exact h1
   ·rcases hor with rfl | rfl
    ·subst h3
     simpa using h1
    ·cases h2
  have HA2 := Lib.hid hL1
  obtain ⟨N, hN⟩ : ∃ N, Hid (s.arcs.length = N) := ⟨_, Lib.hid rfl⟩
  have hnu := num_calls HSt.out
  rw [hN.out] at hnu
  clear hL1 hor hfa HA hfc hism i1 i2 i3 i4
  have i1 := mt_num ⟨b, 0, none⟩
  have i2 := nt_num ⟨b, 0, none⟩
  refine hK6 _ _ ?_
  clear hK6
  go_wp2_with fail
  refine hnu.mono ?_
  rintro e w' ⟨rfl, rfl⟩
  clear hnu i1 i2
  go_wp2_with fail
  apply wp_label
  go_wp2_with fail
  refine wp_loop_once fun KI => ?_
  by_cases hqN : q < N
  ·have e1 : (q : Int) < (N : Int) := by omega
   have hqs : q < (nodeOf (getB backN B) a).arcs.length := by rw [hsn.out, hN.out]; exact hqN
   obtain ⟨x, hx⟩ : ∃ x, Hid (arcAt (getB backN B) a q = x) := ⟨_, Lib.hid rfl⟩
   have hj : s.arcs[q]? = some x := by rw [← hsn.out, ← hx.out]; exact arc_get hqs
   have hfst := HI.out.1.fst
   have haD := HI.out.1.addr
   have hne := HI.out.1.neSt HV0.out.2.2.2.2
   have htr := trat_calls HSt.out hfst.byts hfst.cap.1 hfst.cap.2 haD.1 hj hne.1
   have htf : ∀ w1, Fr (fun _ => False) w' w1 → _ := fun w1 hF => trfor_calls (HSt.out.fr hF (fun h => h)) (hfst.byts.fr hF (fun h => h)) hfst.cap.1 hfst.cap.2 haD.1 hj hne.1
   obtain ⟨xi, hxi⟩ : ∃ xi, Hid (x.1 = xi) := ⟨_, Lib.hid rfl⟩
   obtain ⟨xo, hxo⟩ : ∃ xo, Hid (x.2.1 = xo) := ⟨_, Lib.hid rfl⟩
   obtain ⟨xa, hxa⟩ : ∃ xa, Hid (x.2.2 = xa) := ⟨_, Lib.hid rfl⟩
   rw [hxi.out] at htr htf
   simp only [hxo.out, hxa.out] at htf
   have HTf := Lib.hid htf
   have HQS := Lib.hid (And.intro hqs hj)
   have i1 := mt_trat ⟨b, 0, none⟩
   have i2 := nt_trat ⟨b, 0, none⟩
   have i3 := mt_trfor ⟨b, 0, none⟩
   have i4 := nt_trfor ⟨b, 0, none⟩
   have i5 := mt_acc ⟨ab, 0, none⟩
   have i6 := nt_acc ⟨ab, 0, none⟩
   have i7 := mt_can ⟨ab, 0, none⟩
   have i8 := nt_can ⟨ab, 0, none⟩
   have hacc := fun w z y => al_acc w ⟨ab, 0, none⟩ z y
   have hcan := fun w z => al_can w ⟨ab, 0, none⟩ z
   clear hfst haD hne hqs hj hqN htf
   go_wp2_with fail
   refine htr.mono ?_
   rintro e w1 ⟨rfl, hF1⟩
   have s1 := hF1.cell r1' (fun h => h)
   have htf := HTf.out w1 hF1
   have HF1 := Lib.hid hF1
   clear htr hF1 r1'
   go_wp2_with fail
   refine (hacc _ _ _).mono ?_
   rintro e w2 ⟨rfl, rfl⟩
   go_wp2_with fail
   refine (hcan _ _).mono ?_
   rintro e w2 ⟨rfl, rfl⟩
   go_wp2_with fail
   refine htf.mono ?_
   rintro e w2 ⟨rfl, hF2⟩
   have HF2 := Lib.hid (HF1.out.trans hF2 (fun _ _ h => h))
   clear hF2 htf s1 HF1 i1 i2 i3 i4 i5 i6 i7 i8 hacc hcan
   obtain ⟨col2, HI2⟩ : ∃ col2, Hid (It w2 col2 c ib fb ab db gd cap L D B root K0 v n F sl P a ∧ Kp (itc c) col w col2 w2) := ⟨_, Lib.hid ⟨HI.out.1.frF HF2.out, HI.out.2.trans (Kp.itF HF2.out)⟩⟩
   have r4 := HI2.out.1.ic.blk.blk.cell 4 rfl
   have hv00 : v 0 = .slice (some ⟨g0, 0, none⟩) m1 c0 := by rw [HV0.out.1, hm.out, hm1.out]
   rw [hv00] at r4
   have HV00 := Lib.hid hv00
   have hc0 : m1 ≤ c0 := by have := HV0.out.2.1; rw [hm.out, hm1.out] at this; exact this
   have hc1 : ¬ c0 = 0 := by have := hm1.out; omega
   have hc2 : c0 ≤ 9223372036854775807 := by have := HV0.out.2.2.1; unfold maxLen at this; omega
   clear hv00
   obtain ⟨pre, hpre⟩ : ∃ pre : Option Nat, Hid ((m1 < c0 → sl[m1]? = some pre) ∧ (¬ m1 < c0 → pre = none)) := by
    by_cases hr : m1 < c0
    ·have hl : m1 < sl.length := by rw [HV0.out.2.2.2.1]; exact hr
     exact ⟨sl[m1], Lib.hid ⟨fun _ => List.getElem?_eq_getElem hl, fun h => absurd hr h⟩⟩
    ·exact ⟨none, Lib.hid ⟨fun h => absurd h hr, fun _ => rfl⟩⟩
   go_upto_region 23 with fail
   rename_i K23 hK23
   go_cut [160] from 150 to 160 (fun s wx => s = .bool (decide (m1 < c0)) ∧ wx = w2.drew)
   case first =>
    clear hK23
    refine wp_region_seqV (fun W => W.cell? ⟨ib, 4, none⟩ = some (.slice (some ⟨g0, 0, none⟩) m1 c0)) (fun i => decide (True)) (fun i => ![3, 8].contains i && decide (True)) (fun i => false) [0, 1, 2, 3, 4, 5, 6, 7, 8, 9, 10] (by kernel_rfl) (by kernel_rfl) (fun c a d v w h => by cases d <;> exact h) r4 ?_
    iterate 3 (apply seqV_pure (ho := rfl) (hr := rfl) (hg := rfl); (intro w'; go_simp; rfl))
    (apply seqV_read (ho := rfl) (hr := rfl) (hp := rfl) (hg := rfl); (rintro w' q0; go_simp; rfl))
    go_simp
    iterate 3 (apply seqV_pure (ho := rfl) (hr := rfl) (hg := rfl); (intro w'; go_simp; rfl))
    go_simp
    iterate 1 (apply seqV_pure (ho := rfl) (hr := rfl) (hg := rfl); (intro w'; go_simp; rfl))
    (apply seqV_read (ho := rfl) (hr := rfl) (hp := rfl) (hg := rfl); (rintro w' q0; go_simp; rfl))
    go_simp
    iterate 2 (apply seqV_pure (ho := rfl) (hr := rfl) (hg := rfl); (intro w'; go_simp; rfl))
    unfold seqV
    go_simp
    go_wp2_with fail
    go_meet
    exact ⟨by simp, rfl⟩
   case rest =>
   obtain ⟨rfl, rfl⟩ := hcut
   go_upto_if 160 with fail
   rename_i K24 hK24
   go_cut [18, 160] from 161 to 177 (fun s _ wx => s = slot pre ∧ Fr (fun _ => False) w2 wx)
   case first =>
    clear hK24
    by_cases hroom : m1 < c0
    ·rw [decide_eq_true hroom]
     have hsl := hpre.out.1 hroom
     obtain ⟨g', c', q1, q2, q3, q4, q5, q6, q7⟩ := (HI2.out.1.ic.row 0 (by decide)).row.at_ (j := m1) (u := slot pre) (by rw [HI2.out.1.f0, List.getElem?_map, hsl]; rfl)
     rw [HV00.out] at q1
     injection q1 with q1 q1b q1c
     injection q1 with q1
     injection q1 with q1
     subst q1
     clear q1b q1c
     have rp : w2.drew.cell? ⟨g0, m1, none⟩ = some (slot pre) := q6
     have r4' : w2.drew.cell? ⟨ib, 4, none⟩ = some (.slice (some ⟨g0, 0, none⟩) m1 c0) := r4
     have e2 : (m1 : Int) < (c0 : Int) := by omega
     have e3 : (0 : Int) ≤ (c0 : Int) := by omega
     clear hsl q2 q3 q4 q5 q6 q7 r4 hroom
     go_wp2_with fail
     refine wp_region_seqV (fun W => W.cell? ⟨ib, 4, none⟩ = some (.slice (some ⟨g0, 0, none⟩) m1 c0) ∧ W.cell? ⟨g0, m1, none⟩ = some (slot pre)) (fun i => decide (True)) (fun i => ![3, 7, 13, 16].contains i && decide (True)) (fun i => false) [0, 1, 2, 3, 4, 5, 6, 7, 8, 9, 10, 11, 12, 13, 14, 15, 16, 17] (by kernel_rfl) (by kernel_rfl) (fun c a d v w h => by cases d <;> exact h) ⟨r4', rp⟩ ?_
     iterate 3 (apply seqV_pure (ho := rfl) (hr := rfl) (hg := rfl); (intro w'; go_simp; rfl))
     (apply seqV_read (ho := rfl) (hr := rfl) (hp := rfl) (hg := rfl); (rintro w' ⟨q0, q1⟩; go_simp; rfl))
     go_simp
     iterate 3 (apply seqV_pure (ho := rfl) (hr := rfl) (hg := rfl); (intro w'; go_simp; rfl))
     (apply seqV_read (ho := rfl) (hr := rfl) (hp := rfl) (hg := rfl); (rintro w' ⟨q0, q1⟩; go_simp; rfl))
     go_simp
     iterate 3 (apply seqV_pure (ho := rfl) (hr := rfl) (hg := rfl); (intro w'; go_simp; rfl))
     go_simp
     iterate 2 (apply seqV_pure (ho := rfl) (hr := rfl) (hg := rfl); (intro w'; go_simp; rfl))
     (apply seqV_read (ho := rfl) (hr := rfl) (hp := rfl) (hg := rfl); (rintro w' ⟨q0, q1⟩; go_simp; rfl))
     go_simp
     iterate 2 (apply seqV_pure (ho := rfl) (hr := rfl) (hg := rfl); (intro w'; go_simp; rfl))
     (apply seqV_read (ho := rfl) (hr := rfl) (hp := rfl) (hg := rfl); (rintro w' ⟨q0, q1⟩; go_simp; rfl))
     go_simp
     iterate 1 (apply seqV_pure (ho := rfl) (hr := rfl) (hg := rfl); (intro w'; go_simp; rfl))
     unfold seqV
     go_simp
     go_wp2_with fail
     go_meet
     exact ⟨rfl, (Fr.refl (fun _ => False) w2).drew.drew⟩
    ·rw [decide_eq_false hroom]
     go_wp2_with fail
     go_meet
     exact ⟨by rw [hpre.out.2 hroom]; rfl, (Fr.refl (fun _ => False) w2).drew⟩
   case rest =>
   obtain ⟨rfl, hF3⟩ := hcut
   obtain ⟨colb, HI3⟩ : ∃ colb, Hid (It wc colb c ib fb ab db gd cap L D B root K0 v n F sl P a ∧ Kp (itc c) col w colb wc) := ⟨_, Lib.hid ⟨HI2.out.1.frF hF3, HI2.out.2.trans (Kp.itF hF3)⟩⟩
   have hc00 := HI3.out.1.far.2.2.2
   have hT3 := HX.out.1.kp HI3.out.2 (by unfold itc; omega)
   have hlB := HI3.out.1.fst.file.len
   have hto := (HI3.out.1.addr.2.2).to codesOk (by omega) (arc_mem HQS.out.1)
   rw [hx.out, hxa.out] at hto
   have hpre' : ∀ (y : Nat), pre = some y → sl[m1]? = some (some y) := fun y hy => by
    by_cases hr : m1 < c0
    ·rw [hpre.out.1 hr, hy]
    ·rw [hpre.out.2 hr] at hy; cases hy
   have hsa := HI3.out.1.stateAt hT3 hpre' hto.1
   have r0 := HI3.out.1.ic.blk.blk.cell 0 rfl
   have rd := HI3.out.1.fst.fst.cell 5 rfl
   have j1 := mt_stat ⟨db, 0, none⟩
   have j2 := nt_stat ⟨db, 0, none⟩
   have hmb : Hid (m + 1 ≤ 1048576) := Lib.hid (by
    obtain ⟨k, o, hk⟩ := way_keys (getB_down backN B) (way_snoc HI3.out.1.way HQS.out.1) (by rw [hx.out, hxa.out]; exact hto.2)
    rw [HI3.out.1.fst.file.keys] at hk
    have := HX.out.2.2.1 _ hk
    simp [wkey] at this
    have h2 := hm.out
    omega)
   have HTo := Lib.hid (And.intro hto hpre')
   clear hT3 hlB hto hpre' hF3 HF2 hc00
   go_wp2_with fail
   refine hsa.mono ?_
   rintro e w3 ⟨sb, rfl, hst, hFs, hsb⟩
   obtain ⟨col3, HC3⟩ : ∃ col3, Hid (Kp (fun d => d = c + 7) colb wc col3 w3 ∧ col3 sb = c + 7 ∧ Ic w3 col3 c ib fb ab v n F) := ⟨_, Lib.hid (HI3.out.1.stKp HTo.out.2 hFs hsb)⟩
   have HST := Lib.hid (And.intro hst (And.intro hFs hsb))
   have HP : Hid (Psh w3 col3 c ib fb ab v n F (pxs sb xi q xo) 0 w3) := Lib.hid (Psh.zero _ HC3.out.2.2)
   clear hst hFs hsb hsa r0 rd j1 j2 r4
   obtain ⟨A0, cc0, hv0⟩ : ∃ A cc, Hid (v 0 = .slice A m1 cc) := by
    obtain ⟨A, cc, k1, _⟩ := (HI3.out.1.ic.row 0 (by decide)).row.slc
    exact ⟨A, cc, Lib.hid (by rw [k1, HI3.out.1.n0, hm.out, hm1.out])⟩
   have hn0 : Hid (n 0 = m1) := Lib.hid (by rw [HI3.out.1.n0, hm.out, hm1.out])
   obtain ⟨A1, cc1, hv1⟩ : ∃ A cc, Hid (v 1 = .slice A m cc) := by
    obtain ⟨A, cc, k1, _⟩ := (HI3.out.1.ic.row 1 (by decide)).row.slc
    exact ⟨A, cc, Lib.hid (by rw [k1, HI3.out.1.n1, hm.out])⟩
   have hn1 : Hid (n 1 = m) := Lib.hid (by rw [HI3.out.1.n1, hm.out])
   obtain ⟨A2, cc2, hv2⟩ : ∃ A cc, Hid (v 2 = .slice A m cc) := by
    obtain ⟨A, cc, k1, _⟩ := (HI3.out.1.ic.row 2 (by decide)).row.slc
    exact ⟨A, cc, Lib.hid (by rw [k1, HI3.out.1.n2, hm.out])⟩
   have hn2 : Hid (n 2 = m) := Lib.hid (by rw [HI3.out.1.n2, hm.out])
   obtain ⟨A3, cc3, hv3⟩ : ∃ A cc, Hid (v 3 = .slice A m cc) := by
    obtain ⟨A, cc, k1, _⟩ := (HI3.out.1.ic.row 3 (by decide)).row.slc
    exact ⟨A, cc, Lib.hid (by rw [k1, HI3.out.1.n3, hm.out])⟩
   have hn3 : Hid (n 3 = m) := Lib.hid (by rw [HI3.out.1.n3, hm.out])
   obtain ⟨A4, cc4, hv4⟩ : ∃ A cc, Hid (v 4 = .slice A m1 cc) := by
    obtain ⟨A, cc, k1, _⟩ := (HI3.out.1.ic.row 4 (by decide)).row.slc
    exact ⟨A, cc, Lib.hid (by rw [k1, HI3.out.1.n4, hm.out, hm1.out])⟩
   have hn4 : Hid (n 4 = m1) := Lib.hid (by rw [HI3.out.1.n4, hm.out, hm1.out])
   go_upto_region 28 with fail
   refine wp_named (fun X => Psh w3 col3 c ib fb ab v n F (pxs sb xi q xo) 0 X) HP.out ?_
   clear HP
   intro X0 hp
   have HP0 := Lib.hid hp
   clear hp
   obtain ⟨⟨cs0, hbl, hcs0⟩, hrow0⟩ := Psh.at_ (j := 0) (by decide) HP0.out
   have rj0 := hbl.cell 4 hcs0
   have zj0 := hbl.frz 4
   have HB0 := Lib.hid (And.intro hbl hcs0)
   rw [hv0.out] at rj0
   rw [hv0.out, hn0.out] at hrow0
   clear hbl hcs0
   go_upto_region 29 with (at_builtin; (refine app1f X0 X0.heap.size rfl rfl _ _ 142 rfl 206 .nilIface 1 16 (by kernel_rfl) (by kernel_rfl) rfl (.slice A0 m1 cc0) m1 (F 0) [.iface 254 (.pointer (some ⟨sb, 0, none⟩))] rfl rfl hrow0 rfl (by simp [Value.oneCell']) (by have := hm1.out; have := hmb.out; omega) (by decide) ?_); intro v5 w5 full5 hr5 hF5 hc5; obtain ⟨A5n, cap5n, rfl⟩ := rowv hr5; have u5 := HB0.out.1.fr hF5 (rowf_ne hrow0 HB0.out.1 (by decide)); have d5 := u5.cell 4 HB0.out.2; have e5 := u5.frz 4; clear rj0 zj0 u5)
   have HQ0 := Lib.hid (Psh.step (j := 0) (by decide) HP0.out (by rw [hn0.out]; exact hr5) (by rw [hv0.out]; exact hF5) (by rw [hv0.out, hn0.out]; exact hc5))
   clear d5 e5 hr5 hF5 hc5 HP0 HB0 hrow0
   refine wp_named (fun X => Psh w3 col3 c ib fb ab v n F (pxs sb xi q xo) 1 X) HQ0.out ?_
   clear HQ0
   intro X1 hp
   have HP1 := Lib.hid hp
   clear hp
   obtain ⟨⟨cs1, hbl, hcs1⟩, hrow1⟩ := Psh.at_ (j := 1) (by decide) HP1.out
   have rj1 := hbl.cell 5 hcs1
   have zj1 := hbl.frz 5
   have HB1 := Lib.hid (And.intro hbl hcs1)
   rw [hv1.out] at rj1
   rw [hv1.out, hn1.out] at hrow1
   clear hbl hcs1
   go_upto_region 30 with (at_builtin; (refine app1f X1 X1.heap.size rfl rfl _ _ 29 rfl 5 (.int .u8 0) 1 1 (by kernel_rfl) (by kernel_rfl) rfl (.slice A1 m cc1) m (F 1) [.int .u8 (xi : Int)] rfl rfl hrow1 rfl (by simp [Value.oneCell']) (by have := hm1.out; have := hmb.out; omega) (by decide) ?_); intro v5 w5 full5 hr5 hF5 hc5; obtain ⟨A5n, cap5n, rfl⟩ := rowv hr5; have u5 := HB1.out.1.fr hF5 (rowf_ne hrow1 HB1.out.1 (by decide)); have d5 := u5.cell 5 HB1.out.2; have e5 := u5.frz 5; clear rj1 zj1 u5)
   have HQ1 := Lib.hid (Psh.step (j := 1) (by decide) HP1.out (by rw [hn1.out]; exact hr5) (by rw [hv1.out]; exact hF5) (by rw [hv1.out, hn1.out]; exact hc5))
   clear d5 e5 hr5 hF5 hc5 HP1 HB1 hrow1
   refine wp_named (fun X => Psh w3 col3 c ib fb ab v n F (pxs sb xi q xo) 2 X) HQ1.out ?_
   clear HQ1
   intro X2 hp
   have HP2 := Lib.hid hp
   clear hp
   obtain ⟨⟨cs2, hbl, hcs2⟩, hrow2⟩ := Psh.at_ (j := 2) (by decide) HP2.out
   have rj2 := hbl.cell 6 hcs2
   have zj2 := hbl.frz 6
   have HB2 := Lib.hid (And.intro hbl hcs2)
   rw [hv2.out] at rj2
   rw [hv2.out, hn2.out] at hrow2
   clear hbl hcs2
   go_upto_region 31 with (at_builtin; (refine app1f X2 X2.heap.size rfl rfl _ _ 103 rfl 3 (.int .i64 0) 1 8 (by kernel_rfl) (by kernel_rfl) rfl (.slice A2 m cc2) m (F 2) [.int .i64 (q : Int)] rfl rfl hrow2 rfl (by simp [Value.oneCell']) (by have := hm1.out; have := hmb.out; omega) (by decide) ?_); intro v5 w5 full5 hr5 hF5 hc5; obtain ⟨A5n, cap5n, rfl⟩ := rowv hr5; have u5 := HB2.out.1.fr hF5 (rowf_ne hrow2 HB2.out.1 (by decide)); have d5 := u5.cell 6 HB2.out.2; have e5 := u5.frz 6; clear rj2 zj2 u5)
   have HQ2 := Lib.hid (Psh.step (j := 2) (by decide) HP2.out (by rw [hn2.out]; exact hr5) (by rw [hv2.out]; exact hF5) (by rw [hv2.out, hn2.out]; exact hc5))
   clear d5 e5 hr5 hF5 hc5 HP2 HB2 hrow2
   refine wp_named (fun X => Psh w3 col3 c ib fb ab v n F (pxs sb xi q xo) 3 X) HQ2.out ?_
   clear HQ2
   intro X3 hp
   have HP3 := Lib.hid hp
   clear hp
   obtain ⟨⟨cs3, hbl, hcs3⟩, hrow3⟩ := Psh.at_ (j := 3) (by decide) HP3.out
   have rj3 := hbl.cell 7 hcs3
   have zj3 := hbl.frz 7
   have HB3 := Lib.hid (And.intro hbl hcs3)
   rw [hv3.out] at rj3
   rw [hv3.out, hn3.out] at hrow3
   clear hbl hcs3
   go_upto_region 32 with (at_builtin; (refine app1f X3 X3.heap.size rfl rfl _ _ 43 rfl 40 (.int .u64 0) 1 8 (by kernel_rfl) (by kernel_rfl) rfl (.slice A3 m cc3) m (F 3) [.int .u64 (xo : Int)] rfl rfl hrow3 rfl (by simp [Value.oneCell']) (by have := hm1.out; have := hmb.out; omega) (by decide) ?_); intro v5 w5 full5 hr5 hF5 hc5; obtain ⟨A5n, cap5n, rfl⟩ := rowv hr5; have u5 := HB3.out.1.fr hF5 (rowf_ne hrow3 HB3.out.1 (by decide)); have d5 := u5.cell 7 HB3.out.2; have e5 := u5.frz 7; clear rj3 zj3 u5)
   have HQ3 := Lib.hid (Psh.step (j := 3) (by decide) HP3.out (by rw [hn3.out]; exact hr5) (by rw [hv3.out]; exact hF5) (by rw [hv3.out, hn3.out]; exact hc5))
   clear d5 e5 hr5 hF5 hc5 HP3 HB3 hrow3
   refine wp_named (fun X => Psh w3 col3 c ib fb ab v n F (pxs sb xi q xo) 4 X) HQ3.out ?_
   clear HQ3
   intro X4 hp
   have HP4 := Lib.hid hp
   clear hp
   obtain ⟨⟨cs4, hbl, hcs4⟩, hrow4⟩ := Psh.at_ (j := 4) (by decide) HP4.out
   have rj4 := hbl.cell 8 hcs4
   have zj4 := hbl.frz 8
   have HB4 := Lib.hid (And.intro hbl hcs4)
   rw [hv4.out] at rj4
   rw [hv4.out, hn4.out] at hrow4
   clear hbl hcs4
   go_upto_region 33 with (at_builtin; (refine app1f X4 X4.heap.size rfl rfl _ _ 103 rfl 3 (.int .i64 0) 1 8 (by kernel_rfl) (by kernel_rfl) rfl (.slice A4 m1 cc4) m1 (F 4) [.int .i64 0] rfl rfl hrow4 rfl (by simp [Value.oneCell']) (by have := hm1.out; have := hmb.out; omega) (by decide) ?_); intro v5 w5 full5 hr5 hF5 hc5; obtain ⟨A5n, cap5n, rfl⟩ := rowv hr5; have u5 := HB4.out.1.fr hF5 (rowf_ne hrow4 HB4.out.1 (by decide)); have d5 := u5.cell 8 HB4.out.2; have e5 := u5.frz 8; clear rj4 zj4 u5)
   have HQ4 := Lib.hid (Psh.step (j := 4) (by decide) HP4.out (by rw [hn4.out]; exact hr5) (by rw [hv4.out]; exact hF5) (by rw [hv4.out, hn4.out]; exact hc5))
   clear d5 e5 hr5 hF5 hc5 HP4 HB4 hrow4
   refine wp_named (fun X => Psh w3 col3 c ib fb ab v n F (pxs sb xi q xo) 5 X) HQ4.out ?_
   clear HQ4
   intro X5 hp
   have HP5 := Lib.hid hp
   clear hp
   go_wp2_with fail
   change KO _ _
   refine hK' _ _ (Handed.intro (2 * aheadSz (getB backN B) (P ++ [(a, q)]) xa 0 + (m + 1) + 1) ?_ (hJ _ _ _ ⟨rfl, rfl, rfl, _, _, rfl, rfl, ?_⟩))
   ·have h1 := aheadSz_push (getB_down backN B) P a q HQS.out.1
    rw [hx.out, hxa.out] at h1
    have := hgm.out
    omega
   ·obtain ⟨col6, v6, n6, F6, hI6, hK6', p1, p2⟩ := HP5.out
    obtain ⟨hkst, hcst, hfst⟩ := HC3.out
    obtain ⟨hst, hFs, hsb⟩ := HST.out
    have q0 := p1 0 (by decide)
    have q1 := p1 1 (by decide)
    have q2 := p1 2 (by decide)
    have q3 := p1 3 (by decide)
    have q4 := p1 4 (by decide)
    have q5 := p2 5 (by decide)
    have hI0 := HI3.out.1
    have hf0 := q0.2
    rw [hI0.f0] at hf0
    obtain ⟨sl', hsl1, hsl2⟩ := slNew_of (sb := sb) hf0
    rw [hI0.n0] at hsl2
    have hIt := hI0.pushed (q := q) (sb := sb) (pre := pre) (w1 := w3) (col1 := col3) (w2 := X5) (col2 := col6) (v' := v6) (n' := n6) (F' := F6) (sl' := sl') HQS.out.1 (fun y hy => by have := HTo.out.2 y hy; rw [← hm1.out, ← hm.out] at this; exact this) (by rw [hx.out, hxa.out]; exact hst) hFs hsb hcst hkst hI6 hK6' (by rw [q0.1, hI0.n0]) (by rw [q1.1, hI0.n1]) (by rw [q2.1, hI0.n2]) (by rw [q3.1, hI0.n3]) (by rw [q4.1, hI0.n4]) q5.1 hsl1 hsl2 (by rw [hx.out, hxi.out]; have := q1.2; rw [hI0.n1] at this; exact this) (by have := q2.2; rw [hI0.n2] at this; exact this) (by rw [hx.out, hxo.out]; have := q3.2; rw [hI0.n3] at this; exact this) (by have := q4.2; rw [hI0.n4] at this; exact this) q5.2.1
    have hpu := ahead_push (getB_down backN B) P a q HQS.out.1
    rw [hx.out, hxa.out] at hpu hIt
    refine ⟨0, true, P ++ [(a, q)], xa, col6, v6, n6, F6, sl', hIt, HI3.out.2.trans ((hkst.mono fun d e => by unfold itc; omega).trans (hK6'.mono fun d e => by unfold itc; omega)), rfl, rfl, by rw [List.length_append, hm.out]; rfl, .inr ⟨rfl, rfl, ?_⟩⟩
    rw [← HA2.out, hpu, wkey_snoc, wval_snoc, hx.out, Nat.add_assoc]
  ·have e1 : ¬ (q : Int) < (N : Int) := by omega
   have hqe : (nodeOf (getB backN B) a).arcs.length ≤ q := by rw [hsn.out, hN.out]; omega
   have HQe := Lib.hid hqe
   have r4 := HI.out.1.ic.blk.blk.cell 4 rfl
   have hv00 : v 0 = .slice (some ⟨g0, 0, none⟩) m1 c0 := by rw [HV0.out.1, hm.out, hm1.out]
   rw [hv00] at r4
   have HV00 := Lib.hid hv00
   clear hqe hqN hv00
   rcases Nat.eq_zero_or_pos m with hm0 | hm0
   ·have e2 : (m1 : Int) ≤ 1 := by have := hm1.out; omega
    have hP0 : P = [] := List.length_eq_zero_iff.1 (by rw [hm.out]; exact hm0)
    have hc00 := HI.out.1.far.2.2.2
    have rg := (HX.out.2.1.kp HI.out.2 (by unfold itc; omega)).cell
    have HE : Hid (NxPost w col c ib fb ab db gd cap L D B root T ea L0 (.returned (.iface T (.pointer (some ea)))) w') := Lib.hid (by
     refine ⟨K0, _, v, n, F, sl, P, a, HI.out.1, HI.out.2, .inr ⟨?_, rfl, hP0⟩⟩
     rw [← HA2.out, hP0]
     exact arcKeys_nil HQe.out)
    clear hP0 hc00 hm0
    go_wp2_with fail
    go_ret
    exact HE.out
   ·have e2 : ¬ (m1 : Int) ≤ 1 := by have := hm1.out; omega
    have HM0 := Lib.hid hm0
    clear hm0
    have HSt2 : Hid (∀ i, i ≤ m → ∃ bi x, (P.map (fun p => p.1) ++ [a])[i]? = some x ∧ w'.cell? ⟨g0, i, none⟩ = some (.iface 254 (.pointer (some ⟨bi, 0, none⟩))) ∧ StC w' bi D gd cap x (nodeOf (getB backN B) x)) := Lib.hid (fun i hi => by
     have hl : i < (P.map (fun p => p.1) ++ [a]).length := by simp; have := hm.out; omega
     obtain ⟨bi, k1, k2⟩ := HI.out.1.act i _ (List.getElem?_eq_getElem hl)
     obtain ⟨g', c', q1, q2, q3, q4, q5, q6, q7⟩ := (HI.out.1.ic.row 0 (by decide)).row.at_ (j := i) (u := slot (some bi)) (by rw [HI.out.1.f0, List.getElem?_map, k1]; rfl)
     rw [HV00.out] at q1
     injection q1 with q1
     injection q1 with q1
     injection q1 with q1
     subst q1
     exact ⟨bi, _, List.getElem?_eq_getElem hl, q6, k2⟩)
    go_upto_block 4 with fail
    rename_i K4b hK4b
    go_cut [21, 22] from 256 to 280 (fun p _ wx => ∃ j : Nat, 1 ≤ j ∧ j ≤ m ∧ p = .int .i64 ((m - j : Nat) : Int) ∧ (∀ (i x : Nat), j < i → i ≤ m → (P.map (fun p => p.1) ++ [a])[i]? = some x → (nodeOf (getB backN B) x).arcs.length = 1) ∧ wx = w')
    case first =>
     clear hK4b
     go_wp2_with fail
     go_loopg [22] m (fun g i wx => ∃ j : Nat, 1 ≤ j ∧ j ≤ m ∧ g = j ∧ i = .int .i64 (j : Int) ∧ (∀ (i x : Nat), j < i → i ≤ m → (P.map (fun p => p.1) ++ [a])[i]? = some x → (nodeOf (getB backN B) x).arcs.length = 1) ∧ wx = w')
     case atStart => exact ⟨m, HM0.out, Nat.le_refl _, rfl, rfl, fun i x h1 h2 => by omega, rfl⟩
     case round =>
      obtain ⟨j, hj1, hjm, hgj, rfl, hall, rfl⟩ := hrel
      have HG := Lib.hid hgj
      clear hgj
      have HAll := Lib.hid (And.intro hall (And.intro hj1 hjm))
      have d1 : (0 : Int) < (j : Int) := by omega
      obtain ⟨pn, hpn⟩ : ∃ pn, Hid (m - j = pn) := ⟨_, Lib.hid rfl⟩
      have hpn' := hpn.out
      have hm20 : m < 9223372036854775807 := by have := he3.out; have := HV0.out.2.1; have := hm.out; omega
      have d2 : IntKind.i64.wrap ((m : Int) - (j : Int)) = (pn : Int) := by rw [IntWalk.i64_in _ (by omega)]; omega
      by_cases hj : j = 1
      ·have d3 : ((j : Int) == 1) = true := by rw [hj]; rfl
       clear hall hpn' hm20 hj1 hjm hj
       go_wp2_with fail
       go_meet
       exact ⟨j, HAll.out.2.1, HAll.out.2.2, by rw [hpn.out], HAll.out.1, rfl⟩
      ·have d3 : ¬ (j : Int) = 1 := by omega
       have d3b : ((j : Int) == 1) = false := by simp; omega
       obtain ⟨bj, x, hx, hc, hs⟩ := HSt2.out j hjm
       have hn := num_calls hs
       have i1 := mt_num ⟨bj, 0, none⟩
       have i2 := nt_num ⟨bj, 0, none⟩
       have d5 : IntKind.i64.wrap ((j : Int) - 1) = ((j - 1 : Nat) : Int) := by rw [IntWalk.i64_in _ (by omega)]; omega
       obtain ⟨j1, hj1n⟩ : ∃ j1, Hid (j - 1 = j1) := ⟨_, Lib.hid rfl⟩
       rw [hj1n.out] at d5
       have d6 : (j : Int) < (m1 : Int) := by have := hm1.out; omega
       by_cases hl : (nodeOf (getB backN B) x).arcs.length = 1
       ·rw [hl] at hn
        have HXl := Lib.hid (And.intro hx hl)
        clear hall hpn' hm20 hj1 hjm hs hx hl
        go_wp2_with fail
        refine hn.mono ?_
        rintro e w2 ⟨rfl, rfl⟩
        clear hn i1 i2 hc
        go_wp2_with fail
        go_roundg (j - 1)
        case measure => have := HAll.out.2.1; have := HG.out; omega
        case rel =>
         obtain ⟨h1, h2, h3⟩ := HAll.out
         refine ⟨j - 1, by omega, by omega, rfl, by rw [hj1n.out], fun i y hi1 hi2 hy => ?_, rfl⟩
         by_cases hij : i = j
         ·subst hij
          rw [HXl.out.1] at hy
          cases hy
          exact HXl.out.2
         ·exact h1 i y (by omega) hi2 hy
       ·have d4 : ¬ (((nodeOf (getB backN B) x).arcs.length : Nat) : Int) = 1 := by omega
        generalize (nodeOf (getB backN B) x).arcs.length = ln at *
        have d4b : ((ln : Int) != 1) = true := by simp; omega
        clear hall hpn' hm20 hj1 hjm hs hx hl
        go_wp2_with fail
        refine hn.mono ?_
        rintro e w2 ⟨rfl, rfl⟩
        clear hn i1 i2 hc
        go_wp2_with fail
        go_meet
        exact ⟨j, HAll.out.2.1, HAll.out.2.2, by rw [hpn.out], HAll.out.1, rfl⟩
    case rest =>
    obtain ⟨j, hj1, hjm, rfl, hall, rfl⟩ := hcut
    obtain ⟨pj, hpj⟩ : ∃ pj, Hid (m - j = pj) := ⟨_, Lib.hid rfl⟩
    rw [hpj.out]
    have HAll := Lib.hid (And.intro hall (And.intro hj1 hjm))
    clear hall hj1 hjm
    go_upto_if 282 with fail
    rename_i K42 hK42
    go_cut [21, 282] from 281 to 281 (fun p _ wx => ∃ r : Nat, r < m ∧ p = .int .i64 ((m - r : Nat) : Int) ∧ (∀ (i x : Nat), r < i → i < m → (P.map (fun p => p.1) ++ [a])[i]? = some x → (nodeOf (getB backN B) x).arcs.length = 1) ∧ wx = wc)
    case first =>
     clear hK42
     by_cases hjm : j = m
     ·have d1 : (pj : Int) < 1 := by have := hpj.out; omega
      have HJ := Lib.hid hjm
      clear hjm
      go_wp2_with fail
      go_meet
      exact ⟨m - 1, by have := HM0.out; omega, by rw [show m - (m - 1) = 1 by have := HM0.out; omega]; rfl, fun i x h1 h2 => by omega, rfl⟩
     ·have d1 : ¬ (pj : Int) < 1 := by have := hpj.out; have := HAll.out.2.2; omega
      have HJ := Lib.hid hjm
      clear hjm
      go_wp2_with fail
      go_meet
      exact ⟨j, by have := HJ.out; have := HAll.out.2.2; omega, by rw [hpj.out], fun i x h1 h2 hx => HAll.out.1 i x h1 (by omega) hx, rfl⟩
    case rest =>
    obtain ⟨r, hr, rfl, hall2, rfl⟩ := hcut
    obtain ⟨y, p0, hPr, hPs⟩ := pop_split (P := P) (r := r) (by rw [hm.out]; exact hr)
    obtain ⟨g2, cc2', q1, q2, q3, q4, q5, rp, q7⟩ := (HI.out.1.ic.row 2 (by decide)).row.at_ (HI.out.1.f2 r (y, p0) hPr)
    rw [HI.out.1.n2, hm.out] at q1
    have r6 := HI.out.1.ic.blk.blk.cell 6 rfl
    have r6' : wc.cell? ⟨ib, 6, none⟩ = some (.slice (some ⟨g2, 0, none⟩) m cc2') := by rw [← q1]; exact r6
    have hp0 : p0 < 9223372036854775807 := by
     have hw := HI.out.1.way
     rw [hPs] at hw
     have h1 := (way_split hw).2.1
     have hok := (way_ok codesOk (by have := HI.out.1.fst.file.len; omega) (way_split hw).1 HI.out.1.fst.file.ok).1
     have h2 : (nodeOf (getB backN B) y).arcs.length ≤ 256 := by
      by_cases hy0 : y = 0
      ·subst hy0; simp [nodeOf]
      ·rw [nodeOf_pos hy0]
       obtain ⟨S, _, _, _, _, k1, k2, _⟩ := hok.view codesOk (by have := HI.out.1.fst.file.len; omega) hy0 []
       have := inc_len k1 (fun x hx => by
        obtain ⟨z, hz, rfl⟩ := List.mem_map.1 hx
        exact (k2 z hz).1)
       simpa using this
     omega
    obtain ⟨pn, hpn⟩ : ∃ pn, Hid (m - r = pn) := ⟨_, Lib.hid rfl⟩
    rw [hpn.out]
    have hpn' := hpn.out
    have hm20 : m < 9223372036854775807 := by have := he3.out; have := HV0.out.2.1; have := hm.out; omega
    have d1 : IntKind.i64.wrap ((m : Int) - (pn : Int)) = (r : Int) := by rw [IntWalk.i64_in _ (by omega)]; omega
    obtain ⟨r1, hr1⟩ : ∃ r1, Hid (r + 1 = r1) := ⟨_, Lib.hid rfl⟩
    have d2 : IntKind.i64.wrap ((m1 : Int) - (pn : Int)) = (r1 : Int) := by have := hm1.out; have := hr1.out; rw [IntWalk.i64_in _ (by omega)]; omega
    have d3 : (r : Int) < (m : Int) := by omega
    obtain ⟨p1, hp1⟩ : ∃ p1, Hid (p0 + 1 = p1) := ⟨_, Lib.hid rfl⟩
    have d4 : IntKind.i64.wrap ((p0 : Int) + 1) = (p1 : Int) := by have := hp1.out; rw [IntWalk.i64_in _ (by omega)]; omega
    have HR := Lib.hid (And.intro hr (And.intro hall2 (And.intro hPr hPs)))
    obtain ⟨A0, cc0, hvc0⟩ : ∃ A cc, Hid (v 0 = .slice A m1 cc ∧ m1 ≤ cc) := by
     obtain ⟨A, cc, k1, k2, _⟩ := (HI.out.1.ic.row 0 (by decide)).row.slc
     exact ⟨A, cc, Lib.hid (by rw [HI.out.1.n0, hm.out, hm1.out] at k1 k2; exact ⟨k1, k2⟩)⟩
    have hv0 := Lib.hid hvc0.out.1
    have hcc0 := Lib.hid hvc0.out.2
    have hn0 : Hid (n 0 = m1) := Lib.hid (by rw [HI.out.1.n0, hm.out, hm1.out])
    obtain ⟨A1, cc1, hvc1⟩ : ∃ A cc, Hid (v 1 = .slice A m cc ∧ m ≤ cc) := by
     obtain ⟨A, cc, k1, k2, _⟩ := (HI.out.1.ic.row 1 (by decide)).row.slc
     exact ⟨A, cc, Lib.hid (by rw [HI.out.1.n1, hm.out] at k1 k2; exact ⟨k1, k2⟩)⟩
    have hv1 := Lib.hid hvc1.out.1
    have hcc1 := Lib.hid hvc1.out.2
    have hn1 : Hid (n 1 = m) := Lib.hid (by rw [HI.out.1.n1, hm.out])
    obtain ⟨A2, cc2, hvc2⟩ : ∃ A cc, Hid (v 2 = .slice A m cc ∧ m ≤ cc) := by
     obtain ⟨A, cc, k1, k2, _⟩ := (HI.out.1.ic.row 2 (by decide)).row.slc
     exact ⟨A, cc, Lib.hid (by rw [HI.out.1.n2, hm.out] at k1 k2; exact ⟨k1, k2⟩)⟩
    have hv2 := Lib.hid hvc2.out.1
    have hcc2 := Lib.hid hvc2.out.2
    have hn2 : Hid (n 2 = m) := Lib.hid (by rw [HI.out.1.n2, hm.out])
    obtain ⟨A3, cc3, hvc3⟩ : ∃ A cc, Hid (v 3 = .slice A m cc ∧ m ≤ cc) := by
     obtain ⟨A, cc, k1, k2, _⟩ := (HI.out.1.ic.row 3 (by decide)).row.slc
     exact ⟨A, cc, Lib.hid (by rw [HI.out.1.n3, hm.out] at k1 k2; exact ⟨k1, k2⟩)⟩
    have hv3 := Lib.hid hvc3.out.1
    have hcc3 := Lib.hid hvc3.out.2
    have hn3 : Hid (n 3 = m) := Lib.hid (by rw [HI.out.1.n3, hm.out])
    obtain ⟨A4, cc4, hvc4⟩ : ∃ A cc, Hid (v 4 = .slice A m1 cc ∧ m1 ≤ cc) := by
     obtain ⟨A, cc, k1, k2, _⟩ := (HI.out.1.ic.row 4 (by decide)).row.slc
     exact ⟨A, cc, Lib.hid (by rw [HI.out.1.n4, hm.out, hm1.out] at k1 k2; exact ⟨k1, k2⟩)⟩
    have hv4 := Lib.hid hvc4.out.1
    have hcc4 := Lib.hid hvc4.out.2
    have hn4 : Hid (n 4 = m1) := Lib.hid (by rw [HI.out.1.n4, hm.out, hm1.out])
    have HC : Hid (Pct wc col1 c ib fb ab v n F (nsr r) 0 wc.drew) := Lib.hid ⟨v, n, HI.out.1.ic.drew, (Kp.refl _ _ _).drew, fun k hk => by omega, fun k _ => ⟨rfl, rfl⟩⟩
    have hrm := Lib.hid hr
    clear hr hall2 hPr hPs q1 q2 q3 q4 q5 q7 r6 hpn' hm20 hp0
    go_wp2_with fail
    refine wp_region_seqV (fun W => W.cell? ⟨ib, 6, none⟩ = some (.slice (some ⟨g2, 0, none⟩) m cc2') ∧ W.cell? ⟨g2, r, none⟩ = some (.int .i64 (p0 : Int))) (fun i => decide (True)) (fun i => ![3, 7, 12].contains i && decide (True)) (fun i => false) [0, 1, 2, 3, 4, 5, 6, 7, 8, 9, 10, 11, 12, 13, 14] (by kernel_rfl) (by kernel_rfl) (fun c a d v w h => by cases d <;> exact h) ⟨r6', rp⟩ ?_
    iterate 3 (apply seqV_pure (ho := rfl) (hr := rfl) (hg := rfl); (intro w'; go_simp; rfl))
    (apply seqV_read (ho := rfl) (hr := rfl) (hp := rfl) (hg := rfl); (rintro w' ⟨q0, q1⟩; go_simp; rfl))
    go_simp
    iterate 3 (apply seqV_pure (ho := rfl) (hr := rfl) (hg := rfl); (intro w'; go_simp; rfl))
    (apply seqV_read (ho := rfl) (hr := rfl) (hp := rfl) (hg := rfl); (rintro w' ⟨q0, q1⟩; go_simp; rfl))
    go_simp
    iterate 3 (apply seqV_pure (ho := rfl) (hr := rfl) (hg := rfl); (intro w'; go_simp; rfl))
    go_simp
    iterate 1 (apply seqV_pure (ho := rfl) (hr := rfl) (hg := rfl); (intro w'; go_simp; rfl))
    (apply seqV_read (ho := rfl) (hr := rfl) (hp := rfl) (hg := rfl); (rintro w' ⟨q0, q1⟩; go_simp; rfl))
    go_simp
    iterate 2 (apply seqV_pure (ho := rfl) (hr := rfl) (hg := rfl); (intro w'; go_simp; rfl))
    unfold seqV
    go_simp
    go_upto_region 46 with fail
    refine wp_named (fun X => Pct wc col1 c ib fb ab v n F (nsr r) 0 X) HC.out ?_
    clear HC r6' rp
    intro X0 hp
    have HC0 := Lib.hid hp
    clear hp
    obtain ⟨rj0, zj0⟩ := Pct.at_ (j := 0) (by decide) HC0.out
    rw [hv0.out] at rj0
    have sj0 : ¬ cc0 = 0 := by have := hcc0.out; have := hm1.out; omega
    have tj0 : (r1 : Int) ≤ (cc0 : Int) := by have := hcc0.out; have := hm1.out; have := hr1.out; have := hrm.out; omega
    refine wp_region_seqV (fun W => W.cell? ⟨ib, 4, none⟩ = some (.slice A0 m1 cc0)) (fun i => decide (i ≠ 15)) (fun i => ![4, 8].contains i && decide (i ≠ 15)) (fun i => decide (i = 15)) [0, 1, 2, 3, 4, 5, 6, 7, 8, 9, 10, 11, 12, 13, 14, 15] (by kernel_rfl) (by kernel_rfl) (fun c a d v w h => by cases d <;> exact h) rj0 ?_
    iterate 3 (apply seqV_pure (ho := rfl) (hr := rfl) (hg := rfl); (intro w'; go_simp; rfl))
    go_simp
    iterate 1 (apply seqV_pure (ho := rfl) (hr := rfl) (hg := rfl); (intro w'; go_simp; rfl))
    (apply seqV_read (ho := rfl) (hr := rfl) (hp := rfl) (hg := rfl); (rintro w' q0; go_simp; rfl))
    go_simp
    iterate 3 (apply seqV_pure (ho := rfl) (hr := rfl) (hg := rfl); (intro w'; go_simp; rfl))
    (apply seqV_read (ho := rfl) (hr := rfl) (hp := rfl) (hg := rfl); (rintro w' q0; go_simp; rfl))
    go_simp
    iterate 3 (apply seqV_pure (ho := rfl) (hr := rfl) (hg := rfl); (intro w'; go_simp; rfl))
    go_simp
    iterate 3 (apply seqV_pure (ho := rfl) (hr := rfl) (hg := rfl); (intro w'; go_simp; rfl))
    refine seqV_do rfl rfl fun K hK => ?_
    go_simp
    refine hK _ _ (fun h => by cases h) ?_
    clear hK K
    unfold seqV
    go_simp
    have HQ0 := Lib.hid (Pct.step (j := 0) (A := A0) (cp := cc0) (by decide) HC0.out (by rw [hv0.out, hn0.out]) (by rw [hn0.out]; have := hm1.out; simp only [nsr]; omega))
    clear rj0 zj0 sj0 tj0 HC0
    go_upto_region 47 with fail
    refine wp_named (fun X => Pct wc col1 c ib fb ab v n F (nsr r) 1 X) (by first | exact HQ0.out | (have h := HQ0.out; simp only [nsr] at h; rw [hr1.out] at h; exact h)) ?_
    clear HQ0
    intro X1 hp
    have HC1 := Lib.hid hp
    clear hp
    obtain ⟨rj1, zj1⟩ := Pct.at_ (j := 1) (by decide) HC1.out
    rw [hv1.out] at rj1
    have sj1 : ¬ cc1 = 0 := by have := hcc1.out; have := hm1.out; omega
    have tj1 : (r : Int) ≤ (cc1 : Int) := by have := hcc1.out; have := hm1.out; have := hr1.out; have := hrm.out; omega
    refine wp_region_seqV (fun W => W.cell? ⟨ib, 5, none⟩ = some (.slice A1 m cc1)) (fun i => decide (i ≠ 15)) (fun i => ![4, 8].contains i && decide (i ≠ 15)) (fun i => decide (i = 15)) [0, 1, 2, 3, 4, 5, 6, 7, 8, 9, 10, 11, 12, 13, 14, 15] (by kernel_rfl) (by kernel_rfl) (fun c a d v w h => by cases d <;> exact h) rj1 ?_
    iterate 3 (apply seqV_pure (ho := rfl) (hr := rfl) (hg := rfl); (intro w'; go_simp; rfl))
    go_simp
    iterate 1 (apply seqV_pure (ho := rfl) (hr := rfl) (hg := rfl); (intro w'; go_simp; rfl))
    (apply seqV_read (ho := rfl) (hr := rfl) (hp := rfl) (hg := rfl); (rintro w' q0; go_simp; rfl))
    go_simp
    iterate 3 (apply seqV_pure (ho := rfl) (hr := rfl) (hg := rfl); (intro w'; go_simp; rfl))
    (apply seqV_read (ho := rfl) (hr := rfl) (hp := rfl) (hg := rfl); (rintro w' q0; go_simp; rfl))
    go_simp
    iterate 3 (apply seqV_pure (ho := rfl) (hr := rfl) (hg := rfl); (intro w'; go_simp; rfl))
    go_simp
    iterate 3 (apply seqV_pure (ho := rfl) (hr := rfl) (hg := rfl); (intro w'; go_simp; rfl))
    refine seqV_do rfl rfl fun K hK => ?_
    go_simp
    refine hK _ _ (fun h => by cases h) ?_
    clear hK K
    unfold seqV
    go_simp
    have HQ1 := Lib.hid (Pct.step (j := 1) (A := A1) (cp := cc1) (by decide) HC1.out (by rw [hv1.out, hn1.out]) (by rw [hn1.out]; have := hm1.out; simp only [nsr]; omega))
    clear rj1 zj1 sj1 tj1 HC1
    go_upto_region 48 with fail
    refine wp_named (fun X => Pct wc col1 c ib fb ab v n F (nsr r) 2 X) (by first | exact HQ1.out | (have h := HQ1.out; simp only [nsr] at h; rw [hr1.out] at h; exact h)) ?_
    clear HQ1
    intro X2 hp
    have HC2 := Lib.hid hp
    clear hp
    obtain ⟨rj2, zj2⟩ := Pct.at_ (j := 2) (by decide) HC2.out
    rw [hv2.out] at rj2
    have sj2 : ¬ cc2 = 0 := by have := hcc2.out; have := hm1.out; omega
    have tj2 : (r : Int) ≤ (cc2 : Int) := by have := hcc2.out; have := hm1.out; have := hr1.out; have := hrm.out; omega
    refine wp_region_seqV (fun W => W.cell? ⟨ib, 6, none⟩ = some (.slice A2 m cc2)) (fun i => decide (i ≠ 15)) (fun i => ![4, 8].contains i && decide (i ≠ 15)) (fun i => decide (i = 15)) [0, 1, 2, 3, 4, 5, 6, 7, 8, 9, 10, 11, 12, 13, 14, 15] (by kernel_rfl) (by kernel_rfl) (fun c a d v w h => by cases d <;> exact h) rj2 ?_
    iterate 3 (apply seqV_pure (ho := rfl) (hr := rfl) (hg := rfl); (intro w'; go_simp; rfl))
    go_simp
    iterate 1 (apply seqV_pure (ho := rfl) (hr := rfl) (hg := rfl); (intro w'; go_simp; rfl))
    (apply seqV_read (ho := rfl) (hr := rfl) (hp := rfl) (hg := rfl); (rintro w' q0; go_simp; rfl))
    go_simp
    iterate 3 (apply seqV_pure (ho := rfl) (hr := rfl) (hg := rfl); (intro w'; go_simp; rfl))
    (apply seqV_read (ho := rfl) (hr := rfl) (hp := rfl) (hg := rfl); (rintro w' q0; go_simp; rfl))
    go_simp
    iterate 3 (apply seqV_pure (ho := rfl) (hr := rfl) (hg := rfl); (intro w'; go_simp; rfl))
    go_simp
    iterate 3 (apply seqV_pure (ho := rfl) (hr := rfl) (hg := rfl); (intro w'; go_simp; rfl))
    refine seqV_do rfl rfl fun K hK => ?_
    go_simp
    refine hK _ _ (fun h => by cases h) ?_
    clear hK K
    unfold seqV
    go_simp
    have HQ2 := Lib.hid (Pct.step (j := 2) (A := A2) (cp := cc2) (by decide) HC2.out (by rw [hv2.out, hn2.out]) (by rw [hn2.out]; have := hm1.out; simp only [nsr]; omega))
    clear rj2 zj2 sj2 tj2 HC2
    go_upto_region 49 with fail
    refine wp_named (fun X => Pct wc col1 c ib fb ab v n F (nsr r) 3 X) (by first | exact HQ2.out | (have h := HQ2.out; simp only [nsr] at h; rw [hr1.out] at h; exact h)) ?_
    clear HQ2
    intro X3 hp
    have HC3 := Lib.hid hp
    clear hp
    obtain ⟨rj3, zj3⟩ := Pct.at_ (j := 3) (by decide) HC3.out
    rw [hv3.out] at rj3
    have sj3 : ¬ cc3 = 0 := by have := hcc3.out; have := hm1.out; omega
    have tj3 : (r : Int) ≤ (cc3 : Int) := by have := hcc3.out; have := hm1.out; have := hr1.out; have := hrm.out; omega
    refine wp_region_seqV (fun W => W.cell? ⟨ib, 7, none⟩ = some (.slice A3 m cc3)) (fun i => decide (i ≠ 15)) (fun i => ![4, 8].contains i && decide (i ≠ 15)) (fun i => decide (i = 15)) [0, 1, 2, 3, 4, 5, 6, 7, 8, 9, 10, 11, 12, 13, 14, 15] (by kernel_rfl) (by kernel_rfl) (fun c a d v w h => by cases d <;> exact h) rj3 ?_
    iterate 3 (apply seqV_pure (ho := rfl) (hr := rfl) (hg := rfl); (intro w'; go_simp; rfl))
    go_simp
    iterate 1 (apply seqV_pure (ho := rfl) (hr := rfl) (hg := rfl); (intro w'; go_simp; rfl))
    (apply seqV_read (ho := rfl) (hr := rfl) (hp := rfl) (hg := rfl); (rintro w' q0; go_simp; rfl))
    go_simp
    iterate 3 (apply seqV_pure (ho := rfl) (hr := rfl) (hg := rfl); (intro w'; go_simp; rfl))
    (apply seqV_read (ho := rfl) (hr := rfl) (hp := rfl) (hg := rfl); (rintro w' q0; go_simp; rfl))
    go_simp
    iterate 3 (apply seqV_pure (ho := rfl) (hr := rfl) (hg := rfl); (intro w'; go_simp; rfl))
    go_simp
    iterate 3 (apply seqV_pure (ho := rfl) (hr := rfl) (hg := rfl); (intro w'; go_simp; rfl))
    refine seqV_do rfl rfl fun K hK => ?_
    go_simp
    refine hK _ _ (fun h => by cases h) ?_
    clear hK K
    unfold seqV
    go_simp
    have HQ3 := Lib.hid (Pct.step (j := 3) (A := A3) (cp := cc3) (by decide) HC3.out (by rw [hv3.out, hn3.out]) (by rw [hn3.out]; have := hm1.out; simp only [nsr]; omega))
    clear rj3 zj3 sj3 tj3 HC3
    go_upto_region 50 with fail
    refine wp_named (fun X => Pct wc col1 c ib fb ab v n F (nsr r) 4 X) (by first | exact HQ3.out | (have h := HQ3.out; simp only [nsr] at h; rw [hr1.out] at h; exact h)) ?_
    clear HQ3
    intro X4 hp
    have HC4 := Lib.hid hp
    clear hp
    obtain ⟨rj4, zj4⟩ := Pct.at_ (j := 4) (by decide) HC4.out
    rw [hv4.out] at rj4
    have sj4 : ¬ cc4 = 0 := by have := hcc4.out; have := hm1.out; omega
    have tj4 : (r1 : Int) ≤ (cc4 : Int) := by have := hcc4.out; have := hm1.out; have := hr1.out; have := hrm.out; omega
    refine wp_region_seqV (fun W => W.cell? ⟨ib, 8, none⟩ = some (.slice A4 m1 cc4)) (fun i => decide (i ≠ 15)) (fun i => ![4, 8].contains i && decide (i ≠ 15)) (fun i => decide (i = 15)) [0, 1, 2, 3, 4, 5, 6, 7, 8, 9, 10, 11, 12, 13, 14, 15] (by kernel_rfl) (by kernel_rfl) (fun c a d v w h => by cases d <;> exact h) rj4 ?_
    iterate 3 (apply seqV_pure (ho := rfl) (hr := rfl) (hg := rfl); (intro w'; go_simp; rfl))
    go_simp
    iterate 1 (apply seqV_pure (ho := rfl) (hr := rfl) (hg := rfl); (intro w'; go_simp; rfl))
    (apply seqV_read (ho := rfl) (hr := rfl) (hp := rfl) (hg := rfl); (rintro w' q0; go_simp; rfl))
    go_simp
    iterate 3 (apply seqV_pure (ho := rfl) (hr := rfl) (hg := rfl); (intro w'; go_simp; rfl))
    (apply seqV_read (ho := rfl) (hr := rfl) (hp := rfl) (hg := rfl); (rintro w' q0; go_simp; rfl))
    go_simp
    iterate 3 (apply seqV_pure (ho := rfl) (hr := rfl) (hg := rfl); (intro w'; go_simp; rfl))
    go_simp
    iterate 3 (apply seqV_pure (ho := rfl) (hr := rfl) (hg := rfl); (intro w'; go_simp; rfl))
    refine seqV_do rfl rfl fun K hK => ?_
    go_simp
    refine hK _ _ (fun h => by cases h) ?_
    clear hK K
    unfold seqV
    go_simp
    have HQ4 := Lib.hid (Pct.step (j := 4) (A := A4) (cp := cc4) (by decide) HC4.out (by rw [hv4.out, hn4.out]) (by rw [hn4.out]; have := hm1.out; simp only [nsr]; omega))
    clear rj4 zj4 sj4 tj4 HC4
    go_wp2_with fail
    obtain ⟨hr, hall2, hPr, hPs⟩ := HR.out
    have hpops := ahead_pops _ (P.drop (r + 1)) (P.take r) y p0 a q root rfl (by rw [← hPs]; exact HI.out.1.way) (fun z hz => by
     obtain ⟨i, hi⟩ := List.mem_iff_getElem?.1 hz
     rw [List.getElem?_drop] at hi
     have hil := (List.getElem?_eq_some_iff.1 hi).1
     rw [hm.out] at hil
     exact hall2 (r + 1 + i) z.1 (by omega) hil (by rw [List.getElem?_append_left (by rw [List.length_map, hm.out]; exact hil), List.getElem?_map, hi]; rfl)) HQe.out
    rw [← hPs, hp1.out] at hpops
    refine Handed.intro (2 * aheadSz (getB backN B) (P.take r) y p1 + r + 1) ?_ (hJ _ _ _ ⟨rfl, rfl, rfl, _, _, rfl, rfl, ?_⟩)
    ·have := hgm.out
     rw [hpops.2] at this
     omega
    ·have hq5 : Pct wc col1 c ib fb ab v n F (nsr r) 5 ((X4.setCell ⟨ib, 8, none⟩ (.slice A4 r1 cc4)).drew) := by
      first
      | exact HQ4.out
      | (have h := HQ4.out; simp only [nsr] at h; rw [hr1.out] at h; exact h)
     obtain ⟨v6, n6, hI6, hK6', z1, z2⟩ := hq5
     have hl : (P.take r).length = r := by rw [List.length_take, hm.out]; omega
     have hIt := HI.out.1.popped (P1 := P.take r) (P2 := P.drop (r + 1)) (b := y) (p := p0) hPs hI6 (hK6'.mono fun d e => by omega) (by rw [z1 0 (by decide), hl]; rfl) (by rw [z1 1 (by decide), hl]; rfl) (by rw [z1 2 (by decide), hl]; rfl) (by rw [z1 3 (by decide), hl]; rfl) (by rw [z1 4 (by decide), hl]; rfl) (z2 5 (by decide)).1
     exact ⟨p1, false, P.take r, y, col1, v6, n6, F, sl, hIt, HI.out.2.trans (hK6'.mono fun d e => by unfold itc; omega), rfl, rfl, by rw [hl], .inl ⟨rfl, by rw [← hpops.1, HA2.out]⟩⟩
end
end Go.Proofs.YtmhlnijpimjjaaaGreatDoor
