/- The walk of package utf8's SequenceFromEncodedRange. Condition: both texts are of one length, from 2 to 4. -/
import Derived.Test.YtjeklnbfpehbeaaDoorM03
import Derived.Test.YtjeklnbfpehbeaaDoorM00
set_option linter.unusedVariables false
/- The walk of package utf8's SequenceFromEncodedRange. Condition: both texts are of one length, from 2 to 4. -/
namespace Go.Proofs.YtjeklnbfpehbeaaDoor
open Go.RowKit

/-- A fresh sequence of ranges. -/
theorem seq_fresh {w' : World} {b : Nat} {cs : List Value} (hb : Blk w' b cs 168) {rs : List (Nat × Nat)} (hcs : ∀ (i : Nat) (r : Nat × Nat), rs[i]? = some r → r.1 < 256 ∧ r.2 < 256 ∧ cs[i * 2]? = some (.int .u8 (r.1 : Int)) ∧ cs[i * 2 + 1]? = some (.int .u8 (r.2 : Int))) (n : Nat) (hn : n = rs.length) :
    SeqAt w' (.slice (some ⟨b, 0, none⟩) n n) rs := by
  subst hn
  refine ⟨_, _, rfl, fun i r hr => ?_⟩
  obtain ⟨h1, h2, h3, h4⟩ := hcs i r hr
  exact ⟨h1, h2, b, 0, cs, rfl, hb, by simpa using hb.cell _ h3, by simpa using hb.cell _ h4⟩

set_option maxRecDepth 100000 in
set_option maxHeartbeats 4000000 in
theorem sfr2_calls {w : World} {sb eb : Nat} {a0 a1 a2 a3 b0 b1 b2 b3 : Nat} (hs : Blk w sb (u8s [a0, a1, a2, a3]) 5) (he : Blk w eb (u8s [b0, b1, b2, b3]) 5) (h0 : a0 < 256 ∧ b0 < 256) (h1 : a1 < 256 ∧ b1 < 256) :
    Calls Tryd.prog 74 #[.slice (some ⟨sb, 0, none⟩) 2 4, .slice (some ⟨eb, 0, none⟩) 2 4] w fun e w' => ∃ v, e = .returned (.tuple #[v, .nilIface]) ∧ SeqAt w' v [(a0, b0), (a1, b1)] ∧ Fr (fun _ => False) w w' := by
  have s0 := hs.cell 0 rfl
  have t0 := he.cell 0 rfl
  have s1 := hs.cell 1 rfl
  have t1 := he.cell 1 rfl
  clear hs he
  go_enter Tryd.func74, Tryd.ntmps74
  go_wp2_with fail
  go_region
  all_goals go_wp2_with fail
  all_goals go_ret2
  all_goals refine ⟨_, rfl, seq_fresh (Blk.new w [.int .u8 (a0 : Int), .int .u8 (b0 : Int), .int .u8 (a1 : Int), .int .u8 (b1 : Int)] 168).drew ?_ 2 rfl, (((Fr.refl (fun _ => False) w).alloc _).drew)⟩
  all_goals
    intro i r hr
    have hi : i = 0 ∨ i = 1 := by
      have := (List.getElem?_eq_some_iff.1 hr).1
      simp at this; omega
    rcases hi with rfl | rfl <;> (simp at hr; subst hr; simp_all)

set_option maxRecDepth 100000 in
set_option maxHeartbeats 4000000 in
theorem sfr3_calls {w : World} {sb eb : Nat} {a0 a1 a2 a3 b0 b1 b2 b3 : Nat} (hs : Blk w sb (u8s [a0, a1, a2, a3]) 5) (he : Blk w eb (u8s [b0, b1, b2, b3]) 5) (h0 : a0 < 256 ∧ b0 < 256) (h1 : a1 < 256 ∧ b1 < 256) (h2 : a2 < 256 ∧ b2 < 256) :
    Calls Tryd.prog 74 #[.slice (some ⟨sb, 0, none⟩) 3 4, .slice (some ⟨eb, 0, none⟩) 3 4] w fun e w' => ∃ v, e = .returned (.tuple #[v, .nilIface]) ∧ SeqAt w' v [(a0, b0), (a1, b1), (a2, b2)] ∧ Fr (fun _ => False) w w' := by
  have s0 := hs.cell 0 rfl
  have t0 := he.cell 0 rfl
  have s1 := hs.cell 1 rfl
  have t1 := he.cell 1 rfl
  have s2 := hs.cell 2 rfl
  have t2 := he.cell 2 rfl
  clear hs he
  go_enter Tryd.func74, Tryd.ntmps74
  go_wp2_with fail
  go_region
  all_goals go_wp2_with fail
  all_goals go_ret2
  all_goals refine ⟨_, rfl, seq_fresh (Blk.new w [.int .u8 (a0 : Int), .int .u8 (b0 : Int), .int .u8 (a1 : Int), .int .u8 (b1 : Int), .int .u8 (a2 : Int), .int .u8 (b2 : Int)] 168).drew ?_ 3 rfl, (((Fr.refl (fun _ => False) w).alloc _).drew)⟩
  all_goals
    intro i r hr
    have hi : i = 0 ∨ i = 1 ∨ i = 2 := by
      have := (List.getElem?_eq_some_iff.1 hr).1
      simp at this; omega
    rcases hi with rfl | rfl | rfl <;> (simp at hr; subst hr; simp_all)

set_option maxRecDepth 100000 in
set_option maxHeartbeats 4000000 in
theorem sfr4_calls {w : World} {sb eb : Nat} {a0 a1 a2 a3 b0 b1 b2 b3 : Nat} (hs : Blk w sb (u8s [a0, a1, a2, a3]) 5) (he : Blk w eb (u8s [b0, b1, b2, b3]) 5) (h0 : a0 < 256 ∧ b0 < 256) (h1 : a1 < 256 ∧ b1 < 256) (h2 : a2 < 256 ∧ b2 < 256) (h3 : a3 < 256 ∧ b3 < 256) :
    Calls Tryd.prog 74 #[.slice (some ⟨sb, 0, none⟩) 4 4, .slice (some ⟨eb, 0, none⟩) 4 4] w fun e w' => ∃ v, e = .returned (.tuple #[v, .nilIface]) ∧ SeqAt w' v [(a0, b0), (a1, b1), (a2, b2), (a3, b3)] ∧ Fr (fun _ => False) w w' := by
  have s0 := hs.cell 0 rfl
  have t0 := he.cell 0 rfl
  have s1 := hs.cell 1 rfl
  have t1 := he.cell 1 rfl
  have s2 := hs.cell 2 rfl
  have t2 := he.cell 2 rfl
  have s3 := hs.cell 3 rfl
  have t3 := he.cell 3 rfl
  have hS : ∀ X, (w.drew.alloc X).cell? ⟨sb, 0, none⟩ = some (.int .u8 (a0 : Int)) ∧ (w.drew.alloc X).cell? ⟨sb, 1, none⟩ = some (.int .u8 (a1 : Int)) ∧ (w.drew.alloc X).cell? ⟨sb, 2, none⟩ = some (.int .u8 (a2 : Int)) ∧ (w.drew.alloc X).cell? ⟨sb, 3, none⟩ = some (.int .u8 (a3 : Int)) ∧ (w.drew.alloc X).cell? ⟨eb, 0, none⟩ = some (.int .u8 (b0 : Int)) ∧ (w.drew.alloc X).cell? ⟨eb, 1, none⟩ = some (.int .u8 (b1 : Int)) ∧ (w.drew.alloc X).cell? ⟨eb, 2, none⟩ = some (.int .u8 (b2 : Int)) ∧ (w.drew.alloc X).cell? ⟨eb, 3, none⟩ = some (.int .u8 (b3 : Int)) :=
    fun X => ⟨(hs.drew.alloc X).cell 0 rfl, (hs.drew.alloc X).cell 1 rfl, (hs.drew.alloc X).cell 2 rfl, (hs.drew.alloc X).cell 3 rfl, (he.drew.alloc X).cell 0 rfl, (he.drew.alloc X).cell 1 rfl, (he.drew.alloc X).cell 2 rfl, (he.drew.alloc X).cell 3 rfl⟩
  have HS := Lib.hid hS
  clear hs he hS
  go_enter Tryd.func74, Tryd.ntmps74
  go_wp2_with fail
  refine wp_region_seqT (fun w' => w'.cell? ⟨sb, 0, none⟩ = some (.int .u8 (a0 : Int)) ∧ w'.cell? ⟨sb, 1, none⟩ = some (.int .u8 (a1 : Int)) ∧ w'.cell? ⟨sb, 2, none⟩ = some (.int .u8 (a2 : Int)) ∧ w'.cell? ⟨sb, 3, none⟩ = some (.int .u8 (a3 : Int)) ∧ w'.cell? ⟨eb, 0, none⟩ = some (.int .u8 (b0 : Int)) ∧ w'.cell? ⟨eb, 1, none⟩ = some (.int .u8 (b1 : Int)) ∧ w'.cell? ⟨eb, 2, none⟩ = some (.int .u8 (b2 : Int)) ∧ w'.cell? ⟨eb, 3, none⟩ = some (.int .u8 (b3 : Int))) (fun i => decide (i < 28)) (fun i => decide (29 ≤ i)) [0, 1, 2, 3, 4, 5, 6, 7, 8, 9, 10, 11, 12, 13, 14, 15, 16, 17, 18, 19, 20, 21, 22, 23, 24, 25, 26, 27, 28, 29, 30] (by kernel_rfl) (by kernel_rfl) (fun c a d v w h => by cases d <;> exact h) ⟨s0, s1, s2, s3, t0, t1, t2, t3⟩ ?_
  iterate 28 (apply seqT_read (ho := rfl) (hr := rfl) (hg := rfl); (rintro w' ⟨q1, q2, q3, q4, q5, q6, q7, q8⟩; go_simp; rfl))
  refine seqT_do rfl rfl fun K hK => ?_
  go_simp
  refine hK _ _ (fun _ => HS.out _) ?_
  clear hK K
  refine seqT_do rfl rfl fun K hK => ?_
  go_simp
  refine hK _ _ (fun h => absurd h (by decide)) ?_
  clear hK K
  refine seqT_do rfl rfl fun K hK => ?_
  go_simp
  refine hK _ _ (fun h => absurd h (by decide)) ?_
  clear hK K
  unfold seqT
  go_wp2_with fail
  go_ret2
  refine ⟨_, rfl, seq_fresh (Blk.new w.drew [.int .u8 (a0 : Int), .int .u8 (b0 : Int), .int .u8 (a1 : Int), .int .u8 (b1 : Int), .int .u8 (a2 : Int), .int .u8 (b2 : Int), .int .u8 (a3 : Int), .int .u8 (b3 : Int)] 168) ?_ 4 rfl, (((Fr.refl (fun _ => False) w).drew).alloc _)⟩
  intro i r hr
  have hi : i = 0 ∨ i = 1 ∨ i = 2 ∨ i = 3 := by
    have := (List.getElem?_eq_some_iff.1 hr).1
    simp at this; omega
  rcases hi with rfl | rfl | rfl | rfl <;> (simp at hr; subst hr; simp_all)

/-- The sequence between two runes' bytes. -/
theorem sfr_calls {w : World} {sb eb : Nat} {cs ce : List Nat} (hs : Blk w sb (u8s cs) 5) (he : Blk w eb (u8s ce) 5) (h1 : cs.length = 4) (h2 : ce.length = 4) {n : Nat} (hn : 2 ≤ n) (hn4 : n ≤ 4) (hb : ∀ x, x ∈ cs.take n → x < 256) (hb2 : ∀ x, x ∈ ce.take n → x < 256) :
    Calls Tryd.prog 74 #[.slice (some ⟨sb, 0, none⟩) n 4, .slice (some ⟨eb, 0, none⟩) n 4] w fun e w' => ∃ v, e = .returned (.tuple #[v, .nilIface]) ∧ SeqAt w' v ((cs.take n).zip (ce.take n)) ∧ Fr (fun _ => False) w w' := by
  obtain ⟨a0, a1, a2, a3, rfl⟩ : ∃ a b c d, cs = [a, b, c, d] := by
    match cs, h1 with
    | [a, b, c, d], _ => exact ⟨a, b, c, d, rfl⟩
  obtain ⟨b0, b1, b2, b3, rfl⟩ : ∃ a b c d, ce = [a, b, c, d] := by
    match ce, h2 with
    | [a, b, c, d], _ => exact ⟨a, b, c, d, rfl⟩
  have : n = 2 ∨ n = 3 ∨ n = 4 := by omega
  rcases this with rfl | rfl | rfl
  · exact sfr2_calls hs he ⟨hb _ (by simp), hb2 _ (by simp)⟩ ⟨hb _ (by simp), hb2 _ (by simp)⟩
  · exact sfr3_calls hs he ⟨hb _ (by simp), hb2 _ (by simp)⟩ ⟨hb _ (by simp), hb2 _ (by simp)⟩ ⟨hb _ (by simp), hb2 _ (by simp)⟩
  · exact sfr4_calls hs he ⟨hb _ (by simp), hb2 _ (by simp)⟩ ⟨hb _ (by simp), hb2 _ (by simp)⟩ ⟨hb _ (by simp), hb2 _ (by simp)⟩ ⟨hb _ (by simp), hb2 _ (by simp)⟩
end Go.Proofs.YtjeklnbfpehbeaaDoor
