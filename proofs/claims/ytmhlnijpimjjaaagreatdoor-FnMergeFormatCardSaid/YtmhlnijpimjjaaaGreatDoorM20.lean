/- The methods behind the interfaces that an iterator calls; AlwaysMatch. No condition. The reference's small functions: sizes of keys, order of keys. No condition. The reference's loops over pairs and values: Short, Same, From, Joined. Condition: keys below 2^31 bytes. The reference's numbers and its reader of bytes: Unpacked, target, take, one; the short codes. Condition: the reader stays above the header. -/
import Derived.Test.YtmhlnijpimjjaaaGreatDoorM18
import Derived.Test.YtmhlnijpimjjaaaGreatDoorM17
set_option linter.unusedSimpArgs false
set_option linter.unusedVariables false
namespace Go.Proofs.YtmhlnijpimjjaaaGreatDoor
section
open Go.RowKit Fmt
theorem mt_fin (a : Addr) (w : World) : (method 373 254 (.pointer (some a)) "Final").run Tryz.prog w = .ok (175, .pointer (some a)) w := by kernel_rfl
theorem nt_fin (a : Addr) (w : World) : (nilAhead 373 254 (.pointer (some a)) "Final").run Tryz.prog w = .ok (some false) w := by kernel_rfl
theorem mt_fout (a : Addr) (w : World) : (method 373 254 (.pointer (some a)) "FinalOutput").run Tryz.prog w = .ok (176, .pointer (some a)) w := by kernel_rfl
theorem nt_fout (a : Addr) (w : World) : (nilAhead 373 254 (.pointer (some a)) "FinalOutput").run Tryz.prog w = .ok (some false) w := by kernel_rfl
theorem mt_num (a : Addr) (w : World) : (method 373 254 (.pointer (some a)) "NumTransitions").run Tryz.prog w = .ok (177, .pointer (some a)) w := by kernel_rfl
theorem nt_num (a : Addr) (w : World) : (nilAhead 373 254 (.pointer (some a)) "NumTransitions").run Tryz.prog w = .ok (some false) w := by kernel_rfl
theorem mt_trat (a : Addr) (w : World) : (method 373 254 (.pointer (some a)) "TransitionAt").run Tryz.prog w = .ok (178, .pointer (some a)) w := by kernel_rfl
theorem nt_trat (a : Addr) (w : World) : (nilAhead 373 254 (.pointer (some a)) "TransitionAt").run Tryz.prog w = .ok (some false) w := by kernel_rfl
theorem mt_trfor (a : Addr) (w : World) : (method 373 254 (.pointer (some a)) "TransitionFor").run Tryz.prog w = .ok (179, .pointer (some a)) w := by kernel_rfl
theorem nt_trfor (a : Addr) (w : World) : (nilAhead 373 254 (.pointer (some a)) "TransitionFor").run Tryz.prog w = .ok (some false) w := by kernel_rfl
theorem mt_stat (a : Addr) (w : World) : (method 373 184 (.pointer (some a)) "pub-traverser/pub/vellum.stateAt").run Tryz.prog w = .ok (137, .pointer (some a)) w := by kernel_rfl
theorem nt_stat (a : Addr) (w : World) : (nilAhead 373 184 (.pointer (some a)) "pub-traverser/pub/vellum.stateAt").run Tryz.prog w = .ok (some false) w := by kernel_rfl
theorem mt_root (a : Addr) (w : World) : (method 373 184 (.pointer (some a)) "pub-traverser/pub/vellum.getRoot").run Tryz.prog w = .ok (136, .pointer (some a)) w := by kernel_rfl
theorem nt_root (a : Addr) (w : World) : (nilAhead 373 184 (.pointer (some a)) "pub-traverser/pub/vellum.getRoot").run Tryz.prog w = .ok (some false) w := by kernel_rfl
theorem mt_start (a : Addr) (w : World) : (method 373 186 (.pointer (some a)) "Start").run Tryz.prog w = .ok (149, .pointer (some a)) w := by kernel_rfl
theorem nt_start (a : Addr) (w : World) : (nilAhead 373 186 (.pointer (some a)) "Start").run Tryz.prog w = .ok (some false) w := by kernel_rfl
theorem mt_ism (a : Addr) (w : World) : (method 373 186 (.pointer (some a)) "IsMatch").run Tryz.prog w = .ok (148, .pointer (some a)) w := by kernel_rfl
theorem nt_ism (a : Addr) (w : World) : (nilAhead 373 186 (.pointer (some a)) "IsMatch").run Tryz.prog w = .ok (some false) w := by kernel_rfl
theorem mt_can (a : Addr) (w : World) : (method 373 186 (.pointer (some a)) "CanMatch").run Tryz.prog w = .ok (147, .pointer (some a)) w := by kernel_rfl
theorem nt_can (a : Addr) (w : World) : (nilAhead 373 186 (.pointer (some a)) "CanMatch").run Tryz.prog w = .ok (some false) w := by kernel_rfl
theorem mt_acc (a : Addr) (w : World) : (method 373 186 (.pointer (some a)) "Accept").run Tryz.prog w = .ok (146, .pointer (some a)) w := by kernel_rfl
theorem nt_acc (a : Addr) (w : World) : (nilAhead 373 186 (.pointer (some a)) "Accept").run Tryz.prog w = .ok (some false) w := by kernel_rfl
theorem al_start (w : World) (a : Addr) : Calls Tryz.prog 149 #[.pointer (some a)] w fun e w' => e = .returned (.int .i64 0) ∧ w' = w := by
 go_enter Tryz.func149, Tryz.ntmps149
 go_wp2_with fail
 go_ret
 exact ⟨rfl, rfl⟩
theorem al_ism (w : World) (a : Addr) (z : Int) : Calls Tryz.prog 148 #[.pointer (some a), .int .i64 z] w fun e w' => e = .returned (.bool true) ∧ w' = w := by
 go_enter Tryz.func148, Tryz.ntmps148
 go_wp2_with fail
 go_ret
 exact ⟨rfl, rfl⟩
theorem al_can (w : World) (a : Addr) (z : Int) : Calls Tryz.prog 147 #[.pointer (some a), .int .i64 z] w fun e w' => e = .returned (.bool true) ∧ w' = w := by
 go_enter Tryz.func147, Tryz.ntmps147
 go_wp2_with fail
 go_ret
 exact ⟨rfl, rfl⟩
theorem al_acc (w : World) (a : Addr) (z y : Int) : Calls Tryz.prog 146 #[.pointer (some a), .int .i64 z, .int .u8 y] w fun e w' => e = .returned (.int .i64 0) ∧ w' = w := by
 go_enter Tryz.func146, Tryz.ntmps146
 go_wp2_with fail
 go_ret
 exact ⟨rfl, rfl⟩
end
section
open Go.RowKit Fmt
/-- A truth value; true only if Q holds. -/
def FitB (Q : Prop) (e : Ending) : Prop := ∃ r, e = .returned (.bool r) ∧ (r = true → Q)
/-- Sizes that the statements speak of. -/
def Fits1 (L : Prs) : Prop := L.length ≤ 2147483647 ∧ ∀ (i : Nat) (p : List Nat × Nat), L[i]? = some p → p.1.length ≤ 2147483647
def Fits4 (S : List Prs) : Prop := S.length ≤ 2147483647 ∧ ∀ (i : Nat) (L : Prs), S[i]? = some L → Fits1 L
set_option maxHeartbeats 1000000 in
set_option maxRecDepth 100000 in
theorem fits2_calls (w : World) (s : ByteArray) (z : Int) : Calls Tryz.prog 24 #[.agg #[.string s, .int .u64 z]] w fun e w' => FitB (s.size ≤ 2147483647) e ∧ Fr (fun _ => False) w w' := by
 have HE := Lib.hid ((Fr.refl (fun _ => False) w).alloc (.cells #[.string s, .int .u64 z] 42))
 by_cases h : (2147483647 : Int) < (s.size : Int)
 ·go_enter Tryz.func24, Tryz.ntmps24
  go_wp2_with fail
  go_ret
  exact ⟨⟨_, rfl, fun h => by cases h⟩, HE.out⟩
 ·have HL := Lib.hid (show s.size ≤ 2147483647 by omega)
  go_enter Tryz.func24, Tryz.ntmps24
  go_wp2_with fail
  go_ret
  exact ⟨⟨_, rfl, fun _ => HL.out⟩, HE.out⟩
theorem bytes_get {s : ByteArray} {k : Nat} (h : k < s.size) : (bytesOf s)[k]? = some s[k].toNat := by
 have h' : k < s.data.toList.length := by rw [Array.length_toList]; exact h
 rw [bytesOf, List.getElem?_map, List.getElem?_eq_getElem h']
 rfl
set_option maxHeartbeats 1000000 in
set_option maxRecDepth 100000 in
theorem less_calls (w : World) (s t : ByteArray) (hz : s.size < 4611686018427387904) : Calls Tryz.prog 25 #[.string s, .string t] w fun e w' => e = .returned (.bool (ltb (bytesOf s) (bytesOf t))) ∧ Fr (fun _ => False) w w' := by
 have hs := bytesOf_len s
 have ht := bytesOf_len t
 go_enter Tryz.func25, Tryz.ntmps25
 go_wp2_with fail
 go_loopg [5] (s.size + 1) (fun g i wx => ∃ k : Nat, k ≤ s.size ∧ k ≤ t.size ∧ g = s.size - k + 1 ∧ i = .int .i64 (k : Int) ∧ ltb (bytesOf s) (bytesOf t) = ltb ((bytesOf s).drop k) ((bytesOf t).drop k) ∧ Fr (fun _ => False) w wx)
 case atStart => exact ⟨0, by omega, by omega, by omega, rfl, by simp, Fr.refl _ _⟩
 case round =>
  obtain ⟨k, hk1, hk2, rfl, rfl, hl, hF⟩ := hrel
  by_cases hks : k < s.size
  ·by_cases hkt : k < t.size
   ·have e1 : (k : Int) < (s.size : Int) := by omega
    have e2 : (k : Int) < (t.size : Int) := by omega
    go_wp2_with fail
    refine wp_region_seqV (fun W => True) (fun i => decide (True)) (fun i => ![].contains i && decide (True)) (fun i => false) [0, 1, 2, 3, 4, 5, 6] (by kernel_rfl) (by kernel_rfl) (fun c a d v w h => by cases d <;> exact h) trivial ?_
    iterate 3 (apply seqV_pure (ho := rfl) (hr := rfl) (hg := rfl); (intro w'; go_simp; rfl))
    go_simp
    iterate 3 (apply seqV_pure (ho := rfl) (hr := rfl) (hg := rfl); (intro w'; go_simp; rfl))
    go_simp
    iterate 1 (apply seqV_pure (ho := rfl) (hr := rfl) (hg := rfl); (intro w'; go_simp; rfl))
    unfold seqV
    go_simp
    obtain ⟨x, hx⟩ : ∃ x, Hid (s[k].toNat = x) := ⟨_, Lib.hid rfl⟩
    obtain ⟨y, hy⟩ : ∃ y, Hid (t[k].toNat = y) := ⟨_, Lib.hid rfl⟩
    have gx : (bytesOf s)[k]? = some x := by rw [← hx.out]; exact bytes_get hks
    have gy : (bytesOf t)[k]? = some y := by rw [← hy.out]; exact bytes_get hkt
    rw [hx.out, hy.out]
    have hl2 := hl
    rw [List.drop_eq_getElem_cons (by omega), List.drop_eq_getElem_cons (i := k) (l := bytesOf t) (by omega)] at hl2
    rw [List.getElem?_eq_getElem (by omega)] at gx gy
    rw [Option.some.inj gx, Option.some.inj gy] at hl2
    simp only [ltb] at hl2
    have HF := Lib.hid hF
    have HL := Lib.hid hl2
    by_cases exy : x = y
    ·have e3 : ((x : Int) != (y : Int)) = false := by rw [exy]; simp
     have e4 : IntKind.i64.wrap ((k : Int) + 1) = ((k + 1 : Nat) : Int) := by rw [IntWalk.i64_in _ (by omega)]; omega
     clear hl hl2 hF gx gy
     go_wp2_with fail
     go_roundg (s.size - (k + 1) + 1)
     case measure => omega
     case rel =>
      refine ⟨k + 1, by omega, by omega, rfl, by simp, ?_, HF.out.drew⟩
      rw [HL.out, exy]; simp
    ·have e3 : ((x : Int) != (y : Int)) = true := by simp; omega
     clear hl hl2 hF gx gy
     go_wp2_with fail
     refine wp_region_seqV (fun W => True) (fun i => decide (True)) (fun i => ![].contains i && decide (True)) (fun i => false) [0, 1, 2, 3, 4, 5, 6, 7] (by kernel_rfl) (by kernel_rfl) (fun c a d v w h => by cases d <;> exact h) trivial ?_
     iterate 3 (apply seqV_pure (ho := rfl) (hr := rfl) (hg := rfl); (intro w'; go_simp; rfl))
     go_simp
     iterate 3 (apply seqV_pure (ho := rfl) (hr := rfl) (hg := rfl); (intro w'; go_simp; rfl))
     go_simp
     iterate 2 (apply seqV_pure (ho := rfl) (hr := rfl) (hg := rfl); (intro w'; go_simp; rfl))
     unfold seqV
     go_simp
     rw [hx.out, hy.out]
     go_wp2_with fail
     go_ret
     refine ⟨?_, HF.out.drew.drew⟩
     rw [HL.out, if_neg exy]
     by_cases hlt : x < y
     ·simp [hlt]
     ·simp [hlt]
   ·have e1 : (k : Int) < (s.size : Int) := by omega
    have e2 : ¬ (k : Int) < (t.size : Int) := by omega
    have e3 : ¬ (s.size : Int) < (t.size : Int) := by omega
    have HF := Lib.hid hF
    have HL := Lib.hid hl
    clear hl hF
    go_wp2_with fail
    go_ret
    refine ⟨?_, HF.out⟩
    rw [HL.out, List.drop_of_length_le (l := bytesOf t) (by omega), List.drop_eq_getElem_cons (by omega)]
    rfl
  ·have e1 : ¬ (k : Int) < (s.size : Int) := by omega
   have HF := Lib.hid hF
   have HL := Lib.hid hl
   clear hl hF
   by_cases hkt : k < t.size
   ·have e3 : (s.size : Int) < (t.size : Int) := by omega
    go_wp2_with fail
    go_ret
    refine ⟨?_, HF.out⟩
    rw [HL.out, List.drop_of_length_le (l := bytesOf s) (by omega), List.drop_eq_getElem_cons (by omega)]
    rfl
   ·have e3 : ¬ (s.size : Int) < (t.size : Int) := by omega
    go_wp2_with fail
    go_ret
    refine ⟨?_, HF.out⟩
    rw [HL.out, List.drop_of_length_le (l := bytesOf s) (by omega), List.drop_of_length_le (l := bytesOf t) (by omega)]
    rfl
/-- A slice of pairs; an empty one may lie anywhere. -/
def PrV (w : World) (v : Value) (L : Prs) : Prop := (∃ b o c, v = .slice (some ⟨b, o, none⟩) L.length c ∧ PrsAt w b o L ∧ b < w.heap.size ∧ L.length ≤ c ∧ c ≤ maxLen) ∨ (L = [] ∧ ∃ A c, v = .slice A 0 c ∧ c ≤ maxLen)
theorem PrV.fr {w w' : World} {v : Value} {L : Prs} (h : PrV w v L) (k : Fr (fun _ => False) w w') : PrV w' v L := by
 rcases h with ⟨b, o, c, h1, h2, h3, h4⟩ | h
 ·exact .inl ⟨b, o, c, h1, h2.fr k (fun h => h), Nat.lt_of_lt_of_le h3 k.size, h4⟩
 ·exact .inr h
theorem PrV.len {w : World} {v : Value} {L : Prs} (h : PrV w v L) : ∃ A c, v = .slice A L.length c ∧ L.length ≤ c ∧ c ≤ maxLen := by
 rcases h with ⟨b, o, c, h1, h2, h3, h4⟩ | ⟨h1, A, c, h2, h3⟩
 ·exact ⟨_, c, h1, h4⟩
 ·subst h1; exact ⟨A, c, h2, Nat.zero_le _, h3⟩
theorem PrV.at_ {w : World} {v : Value} {L : Prs} (h : PrV w v L) {i : Nat} {p : List Nat × Nat} (hp : L[i]? = some p) : ∃ b o c s, v = .slice (some ⟨b, o, none⟩) L.length c ∧ w.cell? ⟨b, o + i * 2, none⟩ = some (.string s) ∧ bytesOf s = p.1 ∧ w.cell? ⟨b, o + i * 2 + 1, none⟩ = some (.int .u64 (p.2 : Int)) := by
 rcases h with ⟨b, o, c, h1, h2, h3, h4⟩ | ⟨h1, h2⟩
 ·obtain ⟨s, k1, k2, k3⟩ := h2 i p hp
  exact ⟨b, o, c, s, h1, k1, k2, k3⟩
 ·subst h1; simp at hp
/-- A slice of such slices; an empty one may lie anywhere. -/
def SetsV (w : World) (v : Value) (S : List Prs) : Prop := (∃ b o c, v = .slice (some ⟨b, o, none⟩) S.length c ∧ (∀ i L, S[i]? = some L → ∃ u, w.cell? ⟨b, o + i, none⟩ = some u ∧ PrV w u L) ∧ b < w.heap.size ∧ S.length ≤ c ∧ c ≤ maxLen) ∨ (S = [] ∧ ∃ A c, v = .slice A 0 c ∧ c ≤ maxLen)
theorem SetsV.fr {w w' : World} {v : Value} {S : List Prs} (h : SetsV w v S) (k : Fr (fun _ => False) w w') : SetsV w' v S := by
 rcases h with ⟨b, o, c, h1, h2, h3, h4⟩ | h
 ·exact .inl ⟨b, o, c, h1, fun i L hL => by
   obtain ⟨u, k1, k2⟩ := h2 i L hL
   exact ⟨u, k.cell k1 (fun h => h), k2.fr k⟩, Nat.lt_of_lt_of_le h3 k.size, h4⟩
 ·exact .inr h
theorem SetsV.len {w : World} {v : Value} {S : List Prs} (h : SetsV w v S) : ∃ A c, v = .slice A S.length c ∧ S.length ≤ c ∧ c ≤ maxLen := by
 rcases h with ⟨b, o, c, h1, h2, h3, h4⟩ | ⟨h1, A, c, h2, h3⟩
 ·exact ⟨_, c, h1, h4⟩
 ·subst h1; exact ⟨A, c, h2, Nat.zero_le _, h3⟩
theorem SetsV.at_ {w : World} {v : Value} {S : List Prs} (h : SetsV w v S) {i : Nat} {L : Prs} (hp : S[i]? = some L) : ∃ b o c u, v = .slice (some ⟨b, o, none⟩) S.length c ∧ w.cell? ⟨b, o + i, none⟩ = some u ∧ PrV w u L := by
 rcases h with ⟨b, o, c, h1, h2, h3, h4⟩ | ⟨h1, h2⟩
 ·obtain ⟨u, k1, k2⟩ := h2 i L hp
  exact ⟨b, o, c, u, h1, k1, k2⟩
 ·subst h1; simp at hp
set_option maxHeartbeats 1000000 in
set_option maxRecDepth 100000 in
theorem fits1_calls {w : World} {v : Value} {L : Prs} (h : PrV w v L) : Calls Tryz.prog 12 #[v] w fun e w' => FitB (Fits1 L) e ∧ Fr (fun _ => False) w w' := by
 obtain ⟨A, c, rfl, hc, hm⟩ := h.len
 have HH := Lib.hid h
 have HE := Lib.hid (Fr.refl (fun _ => False) w)
 generalize hn : L.length = n at *
 unfold maxLen at hm
 by_cases hl : (2147483647 : Int) < (n : Int)
 ·clear h
  go_enter Tryz.func12, Tryz.ntmps12
  go_wp2_with fail
  go_ret
  exact ⟨⟨_, rfl, fun h => by cases h⟩, HE.out⟩
 ·clear h
  go_enter Tryz.func12, Tryz.ntmps12
  go_wp2_with fail
  go_loopg [10] (n + 1) (fun g i wx => ∃ k : Nat, k ≤ n ∧ g = n - k + 1 ∧ i = .int .i64 (k : Int) ∧ (∀ j p, j < k → L[j]? = some p → p.1.length ≤ 2147483647) ∧ Fr (fun _ => False) w wx)
  case atStart => exact ⟨0, by omega, by omega, rfl, fun j p hj => by omega, HE.out⟩
  case round =>
   obtain ⟨k, hk, rfl, rfl, hQ, hF⟩ := hrel
   by_cases hkn : k < n
   ·have e1 : (k : Int) < (n : Int) := by omega
    obtain ⟨p, hp⟩ : ∃ p, L[k]? = some p := ⟨_, List.getElem?_eq_getElem (by omega)⟩
    obtain ⟨b, o, c', s, k1, k2, k3, k4⟩ := (HH.out.fr hF).at_ hp
    injection k1 with k1 k1b k1c
    subst k1 k1c
    clear k1b
    have HF := Lib.hid hF
    have e4 : IntKind.i64.wrap ((k : Int) + 1) = ((k + 1 : Nat) : Int) := by rw [IntWalk.i64_in _ (by omega)]; omega
    have HQ := Lib.hid (And.intro hQ (And.intro hp k3))
    clear hQ
    have HW := Lib.hid (hF.trans ((Fr.refl (fun _ => False) wr).alloc (.cells #[.string s, .int .u64 (p.2 : Int)] 42)) (fun _ _ h => h))
    clear hF hp k3 hm hc hl hn
    generalize p.2 = z at *
    go_wp2_with fail
    refine (fits2_calls _ s _).mono ?_
    rintro e w2 ⟨⟨r, rfl, hr⟩, hF2⟩
    have HR := Lib.hid hr
    clear hr
    have HF2 := Lib.hid (HW.out.trans hF2 (fun _ _ h => h))
    clear hF2
    cases r with
    | false =>
     go_wp2_with fail
     go_ret
     exact ⟨⟨_, rfl, fun h => by cases h⟩, HF2.out⟩
    | true =>
     go_wp2_with fail
     go_roundg (n - (k + 1) + 1)
     case measure => omega
     case rel =>
      obtain ⟨h1, h2, h3⟩ := HQ.out
      refine ⟨k + 1, by omega, rfl, by simp, fun j q hj hq => ?_, HF2.out⟩
      by_cases hjk : j = k
      ·subst hjk
       rw [h2] at hq
       cases hq
       have := HR.out (by simp)
       rwa [← h3, bytesOf_len]
      ·exact h1 j q (by omega) hq
   ·have e1 : ¬ (k : Int) < (n : Int) := by omega
    have HF := Lib.hid (And.intro hF (show Fits1 L from ⟨by omega, fun i p hi => hQ i p (by have := (List.getElem?_eq_some_iff.1 hi).1; omega) hi⟩))
    clear hF hl hm hc hQ hn
    go_wp2_with fail
    go_ret
    exact ⟨⟨_, rfl, fun _ => HF.out.2⟩, HF.out.1⟩
set_option maxHeartbeats 1000000 in
set_option maxRecDepth 100000 in
theorem fits4_calls {w : World} {v : Value} {S : List Prs} (h : SetsV w v S) : Calls Tryz.prog 4 #[v] w fun e w' => FitB (Fits4 S) e ∧ Fr (fun _ => False) w w' := by
 obtain ⟨A, c, rfl, hc, hm⟩ := h.len
 have HH := Lib.hid h
 have HE := Lib.hid (Fr.refl (fun _ => False) w)
 generalize hn : S.length = n at *
 unfold maxLen at hm
 by_cases hl : (2147483647 : Int) < (n : Int)
 ·clear h
  go_enter Tryz.func4, Tryz.ntmps4
  go_wp2_with fail
  go_ret
  exact ⟨⟨_, rfl, fun h => by cases h⟩, HE.out⟩
 ·clear h
  go_enter Tryz.func4, Tryz.ntmps4
  go_wp2_with fail
  go_loopg [10] (n + 1) (fun g i wx => ∃ k : Nat, k ≤ n ∧ g = n - k + 1 ∧ i = .int .i64 (k : Int) ∧ (∀ j p, j < k → S[j]? = some p → Fits1 p) ∧ Fr (fun _ => False) w wx)
  case atStart => exact ⟨0, by omega, by omega, rfl, fun j p hj => by omega, HE.out⟩
  case round =>
   obtain ⟨k, hk, rfl, rfl, hQ, hF⟩ := hrel
   by_cases hkn : k < n
   ·have e1 : (k : Int) < (n : Int) := by omega
    obtain ⟨p, hp⟩ : ∃ p, S[k]? = some p := ⟨_, List.getElem?_eq_getElem (by omega)⟩
    obtain ⟨b, o, c', u, k1, k2, k3⟩ := (HH.out.fr hF).at_ hp
    injection k1 with k1 k1b k1c
    subst k1 k1c
    clear k1b
    have HF := Lib.hid hF
    have e4 : IntKind.i64.wrap ((k : Int) + 1) = ((k + 1 : Nat) : Int) := by rw [IntWalk.i64_in _ (by omega)]; omega
    have hf1 := fits1_calls k3
    have HQ := Lib.hid (And.intro hQ hp)
    clear hQ
    clear hF hp hm hc hl hn k3
    go_wp2_with fail
    refine hf1.mono ?_
    rintro e w2 ⟨⟨r, rfl, hr⟩, hF2⟩
    have HR := Lib.hid hr
    clear hr
    have HF2 := Lib.hid (HF.out.trans hF2 (fun _ _ h => h))
    clear hF2 hf1
    cases r with
    | false =>
     go_wp2_with fail
     go_ret
     exact ⟨⟨_, rfl, fun h => by cases h⟩, HF2.out⟩
    | true =>
     go_wp2_with fail
     go_roundg (n - (k + 1) + 1)
     case measure => omega
     case rel =>
      obtain ⟨h1, h2⟩ := HQ.out
      refine ⟨k + 1, by omega, rfl, by simp, fun j q hj hq => ?_, HF2.out⟩
      by_cases hjk : j = k
      ·subst hjk
       rw [h2] at hq
       cases hq
       exact HR.out (by simp)
      ·exact h1 j q (by omega) hq
   ·have e1 : ¬ (k : Int) < (n : Int) := by omega
    have HF := Lib.hid (And.intro hF (show Fits4 S from ⟨by omega, fun i p hi => hQ i p (by have := (List.getElem?_eq_some_iff.1 hi).1; omega) hi⟩))
    clear hF hl hm hc hQ hn
    go_wp2_with fail
    go_ret
    exact ⟨⟨_, rfl, fun _ => HF.out.2⟩, HF.out.1⟩
end
section
open Go.RowKit Fmt
/-- No key is longer than the form allows. -/
def Short1 (L : Prs) : Prop := ∀ p, p ∈ L → p.1.length ≤ 400
set_option maxHeartbeats 1000000 in
set_option maxRecDepth 100000 in
theorem short_calls {w : World} {v : Value} {L : Prs} (h : PrV w v L) (hl : L.length ≤ 1099511627776) : Calls Tryz.prog 7 #[v] w fun e w' => FitB (Short1 L) e ∧ Fr (fun _ => False) w w' := by
 obtain ⟨A, c, rfl, hc, hm⟩ := h.len
 have HH := Lib.hid h
 have HE := Lib.hid (Fr.refl (fun _ => False) w)
 generalize hn : L.length = n at *
 clear h
 go_enter Tryz.func7, Tryz.ntmps7
 go_wp2_with fail
 go_loopg [3] (n + 1) (fun g i wx => ∃ k : Nat, k ≤ n ∧ g = n - k + 1 ∧ i = .int .i64 (k : Int) ∧ (∀ j p, j < k → L[j]? = some p → p.1.length ≤ 400) ∧ wx = w)
 case atStart => exact ⟨0, by omega, by omega, rfl, fun j p hj => by omega, rfl⟩
 case round =>
  obtain ⟨k, hk, rfl, rfl, hQ, rfl⟩ := hrel
  by_cases hkn : k < n
  ·have e1 : (k : Int) < (n : Int) := by omega
   obtain ⟨p, hp⟩ : ∃ p, L[k]? = some p := ⟨_, List.getElem?_eq_getElem (by omega)⟩
   obtain ⟨b, o, c', s, k1, k2, k3, k4⟩ := HH.out.at_ hp
   injection k1 with k1 k1b k1c
   subst k1 k1c
   clear k1b k4
   have e4 : IntKind.i64.wrap ((k : Int) + 1) = ((k + 1 : Nat) : Int) := by rw [IntWalk.i64_in _ (by omega)]; omega
   have HQ := Lib.hid (And.intro hQ (And.intro hp k3))
   clear hQ hp k3 hm hc hn
   by_cases hs : s.size ≤ 400
   ·have e5 : ¬ (400 : Int) < (s.size : Int) := by omega
    have HS := Lib.hid hs
    clear hs
    go_wp2_with fail
    go_roundg (n - (k + 1) + 1)
    case measure => omega
    case rel =>
     obtain ⟨h1, h2, h3⟩ := HQ.out
     refine ⟨k + 1, by omega, rfl, by simp, fun j q hj hq => ?_, rfl⟩
     by_cases hjk : j = k
     ·subst hjk
      rw [h2] at hq
      cases hq
      rw [← h3, bytesOf_len]
      exact HS.out
     ·exact h1 j q (by omega) hq
   ·have e5 : (400 : Int) < (s.size : Int) := by omega
    clear hs
    go_wp2_with fail
    go_ret
    exact ⟨⟨_, rfl, fun h => by cases h⟩, HE.out⟩
  ·have e1 : ¬ (k : Int) < (n : Int) := by omega
   have HF := Lib.hid (show Short1 L from fun p hp => by
    obtain ⟨i, hi⟩ := List.mem_iff_getElem?.1 hp
    exact hQ i p (by have := (List.getElem?_eq_some_iff.1 hi).1; omega) hi)
   clear hm hc hQ hn
   go_wp2_with fail
   go_ret
   exact ⟨⟨_, rfl, fun _ => HF.out⟩, HE.out⟩
theorem map_toNat_inj : ∀ (l l' : List UInt8), l.map UInt8.toNat = l'.map UInt8.toNat → l = l'
 | [], [], _ => rfl
 | [], _ :: _, h => by simp at h
 | _ :: _, [], h => by simp at h
 | a :: l, b :: l', h => by
  simp only [List.map_cons, List.cons.injEq] at h
  rw [UInt8.toNat_inj.1 h.1, map_toNat_inj l l' h.2]
theorem bytesOf_inj {s t : ByteArray} (h : bytesOf s = bytesOf t) : s = t := by
 unfold bytesOf at h
 have h1 : s.data.toList = t.data.toList := map_toNat_inj _ _ h
 cases s; cases t
 congr
 exact Array.ext' h1
set_option maxHeartbeats 1000000 in
set_option maxRecDepth 100000 in
theorem from_calls {w : World} {v : Value} {L : Prs} (h : PrV w v L) (hl : L.length ≤ 1099511627776) (t : ByteArray) (hs : ∀ p, p ∈ L → p.1.length ≤ 2147483647) : Calls Tryz.prog 15 #[v, .string t] w fun e w' => e = .returned (.int .i64 (fromN L (bytesOf t) : Int)) ∧ Fr (fun _ => False) w w' := by
 obtain ⟨A, c, rfl, hc, hm⟩ := h.len
 have HH := Lib.hid h
 have HS := Lib.hid hs
 have HE := Lib.hid (Fr.refl (fun _ => False) w)
 generalize hn : L.length = n at *
 clear h hs
 go_enter Tryz.func15, Tryz.ntmps15
 go_wp2_with fail
 go_loopg [5] (n + 1) (fun g i wx => ∃ k : Nat, k ≤ n ∧ g = n - k + 1 ∧ i = .int .i64 (k : Int) ∧ fromN L (bytesOf t) = k + fromN (L.drop k) (bytesOf t) ∧ Fr (fun _ => False) w wx)
 case atStart => exact ⟨0, by omega, by omega, rfl, by simp, HE.out⟩
 case round =>
  obtain ⟨k, hk, rfl, rfl, hQ, hF⟩ := hrel
  by_cases hkn : k < n
  ·have e1 : (k : Int) < (n : Int) := by omega
   obtain ⟨p, hp⟩ : ∃ p, L[k]? = some p := ⟨_, List.getElem?_eq_getElem (by omega)⟩
   obtain ⟨b, o, c', s, k1, k2, k3, k4⟩ := (HH.out.fr hF).at_ hp
   injection k1 with k1 k1b k1c
   subst k1 k1c
   clear k1b k4
   have e4 : IntKind.i64.wrap ((k : Int) + 1) = ((k + 1 : Nat) : Int) := by rw [IntWalk.i64_in _ (by omega)]; omega
   have hle := less_calls wr s t (by
    have := HS.out p (List.mem_of_getElem? hp)
    rw [← k3, bytesOf_len] at this
    omega)
   rw [List.drop_eq_getElem_cons (by omega)] at hQ
   rw [List.getElem?_eq_getElem (by omega)] at hp
   rw [Option.some.inj hp] at hQ
   rw [k3] at hle
   simp only [fromN] at hQ
   have HQ := Lib.hid hQ
   have HF := Lib.hid hF
   clear hQ hp k3 hm hc hn hF
   generalize ltb p.1 (bytesOf t) = r at *
   cases r with
   | true =>
    go_wp2_with fail
    refine hle.mono ?_
    rintro e w2 ⟨rfl, hF2⟩
    have HF2 := Lib.hid (HF.out.trans hF2 (fun _ _ h => h))
    clear hF2 hle
    go_wp2_with fail
    go_roundg (n - (k + 1) + 1)
    case measure => omega
    case rel => exact ⟨k + 1, by omega, rfl, by simp, by have := HQ.out; simp at this; omega, HF2.out⟩
   | false =>
    go_wp2_with fail
    refine hle.mono ?_
    rintro e w2 ⟨rfl, hF2⟩
    have HF2 := Lib.hid (HF.out.trans hF2 (fun _ _ h => h))
    clear hF2 hle
    go_wp2_with fail
    go_ret
    exact ⟨by have := HQ.out; simp at this; rw [this]; rfl, HF2.out⟩
  ·have e1 : ¬ (k : Int) < (n : Int) := by omega
   have HQ := Lib.hid hQ
   have HF := Lib.hid hF
   clear hm hc hQ hF
   go_wp2_with fail
   go_ret
   refine ⟨?_, HF.out⟩
   have h1 := HQ.out
   rw [List.drop_of_length_le (by omega)] at h1
   simp only [fromN, Nat.add_zero] at h1
   rw [h1]; rfl
end
section
open Go.RowKit Fmt
theorem unp_lt : ∀ (l : List Nat), (∀ x, x ∈ l → x < 256) → unp l < 256 ^ l.length
 | [], _ => by simp [unp]
 | b :: l, h => by
  have h1 := unp_lt l (fun x hx => h x (List.mem_cons_of_mem _ hx))
  have h2 := h b (List.mem_cons_self ..)
  simp only [unp, List.length_cons, Nat.pow_succ]
  omega
theorem unp_small {l : List Nat} (h : ∀ x, x ∈ l → x < 256) (h8 : l.length ≤ 8) : unp l < 18446744073709551616 :=
 Nat.lt_of_lt_of_le (unp_lt l h) (Nat.le_trans (Nat.pow_le_pow_right (by decide) h8) (by decide))
set_option maxHeartbeats 1000000 in
set_option maxRecDepth 100000 in
theorem unpacked_calls {w : World} {b o n c : Nat} {l : List Nat} (h : Byts w b o l) (hn : l.length = n) (hlb : ∀ x, x ∈ l → x < 256) (h8 : n ≤ 8) :
  Calls Tryz.prog 22 #[.slice (some ⟨b, o, none⟩) n c] w fun e w' => e = .returned (.int .u64 (unp l : Int)) ∧ w' = w := by
 have HH := Lib.hid (And.intro h (And.intro hn (And.intro hlb h8)))
 have e0 : IntKind.i64.wrap ((n : Int) - 1) = (n : Int) - 1 := IntWalk.i64_in _ (by omega)
 clear h hn hlb
 go_enter Tryz.func22, Tryz.ntmps22
 go_wp2_with fail
 go_loopg [3, 4] (n + 1) (fun g u i wx => ∃ (j : Nat) (q : Int), j ≤ n ∧ g = j + 1 ∧ i = .int .i64 q ∧ q = (j : Int) - 1 ∧ u = .int .u64 (unp (l.drop j) : Int) ∧ wx = w)
 case atStart =>
  refine ⟨n, (n : Int) - 1, Nat.le_refl _, rfl, rfl, rfl, ?_, rfl⟩
  rw [List.drop_of_length_le (by rw [HH.out.2.1]; exact Nat.le_refl _)]; rfl
 case round =>
  obtain ⟨j, q, hj, rfl, rfl, hq, rfl, rfl⟩ := hrel
  rcases Nat.eq_zero_or_pos j with rfl | hj0
  ·have e1 : ¬ (0 : Int) ≤ q := by omega
   clear hq e0
   go_wp2_with fail
   go_ret
   exact ⟨rfl, rfl⟩
  ·obtain ⟨h1, h2, h3, h4⟩ := HH.out
   have e1 : (0 : Int) ≤ q := by omega
   obtain ⟨i, rfl⟩ : ∃ i : Nat, q = (i : Int) := ⟨q.toNat, by omega⟩
   have hji : j = i + 1 := by omega
   subst hji
   obtain ⟨x, hx⟩ : ∃ x, l[i]? = some x := ⟨_, List.getElem?_eq_getElem (by omega)⟩
   have hx256 := h3 x (List.mem_of_getElem? hx)
   have hc := h1.at_ i x hx
   have hu : unp (l.drop i) = x + 256 * unp (l.drop (i + 1)) := by
    rw [List.drop_eq_getElem_cons (by omega)]
    rw [List.getElem?_eq_getElem (by omega)] at hx
    rw [Option.some.inj hx]; rfl
   have hlt : unp (l.drop i) < 18446744073709551616 := unp_small (fun y hy => h3 y (List.mem_of_mem_drop hy)) (by rw [List.length_drop]; omega)
   have e2 : (i : Int) < (n : Int) := by omega
   have HU := Lib.hid hu
   obtain ⟨u, hu1⟩ : ∃ u, Hid (unp (l.drop (i + 1)) = u) := ⟨_, Lib.hid rfl⟩
   rw [hu1.out] at hu ⊢
   have e3 : IntKind.u64.wrap ((u : Int) * 256) = ((u * 256 : Nat) : Int) := by rw [IntWalk.u64_in _ (by omega)]; omega
   obtain ⟨z, hz⟩ : ∃ z, Hid (u * 256 = z) := ⟨_, Lib.hid rfl⟩
   have hz' := hz.out
   rw [hz.out] at e3
   have e4 : IntKind.u64.wrap (x : Int) = (x : Int) := IntWalk.u64_in _ (by omega)
   obtain ⟨y, hy⟩ : ∃ y, Hid (z + x = y) := ⟨_, Lib.hid rfl⟩
   have hy' := hy.out
   have e5 : IntKind.u64.wrap ((z : Int) + (x : Int)) = (y : Int) := by rw [IntWalk.u64_in _ (by omega)]; omega
   have e6 : IntKind.i64.wrap ((i : Int) - 1) = (i : Int) - 1 := IntWalk.i64_in _ (by omega)
   have HY := Lib.hid (show y = unp (l.drop i) by omega)
   clear e0 h1 h2 h3 h4 hx hx256 hu hlt hz' hy' hq
   go_wp2_with fail
   go_roundg (i + 1)
   case measure => omega
   case rel => exact ⟨i, (i : Int) - 1, by omega, rfl, rfl, rfl, by rw [HY.out], rfl⟩
set_option maxHeartbeats 1000000 in
set_option maxRecDepth 100000 in
theorem target_calls (w : World) {f d : Nat} (hd : d ≤ f) (hf : f < 9223372036854775808) : Calls Tryz.prog 81 #[.int .i64 (f : Int), .int .u64 (d : Int)] w fun e w' => e = .returned (.int .i64 ((if d = 0 then 0 else f - d : Nat) : Int)) ∧ w' = w := by
 rcases Nat.eq_zero_or_pos d with rfl | h0
 ·rw [if_pos rfl]
  go_enter Tryz.func81, Tryz.ntmps81
  go_wp2_with fail
  go_ret
  exact ⟨rfl, rfl⟩
 ·rw [if_neg (by omega)]
  have e1 : ¬ (d : Int) = 0 := by omega
  have e2 : IntKind.u64.wrap (f : Int) = (f : Int) := IntWalk.u64_in _ (by omega)
  have e3 : ¬ (f : Int) < (d : Int) := by omega
  have e4 : IntKind.i64.wrap (d : Int) = (d : Int) := IntWalk.i64_in _ (by omega)
  have e5 : IntKind.i64.wrap ((f : Int) - (d : Int)) = ((f - d : Nat) : Int) := by rw [IntWalk.i64_in _ (by omega)]; omega
  generalize f - d = z at *
  clear hd hf h0
  go_enter Tryz.func81, Tryz.ntmps81
  go_wp2_with fail
  go_ret
  exact ⟨rfl, rfl⟩
/-- A reader's cells. -/
def rdc (g n cap at_ : Nat) : List Value := [.slice (some ⟨g, 0, none⟩) n cap, .int .i64 (at_ : Int), .bool false]
set_option maxHeartbeats 1000000 in
set_option maxRecDepth 100000 in
theorem take_calls {w : World} {rb g n cap a m : Nat} (hb : Blk w rb (rdc g n cap (a + m)) 177) (ha : 15 ≤ a) (hm : m ≤ 8) (hc : a + m + 1 < cap) (hmx : cap ≤ maxLen) :
  Calls Tryz.prog 80 #[.pointer (some ⟨rb, 0, none⟩), .int .i64 (m : Int)] w fun e w' => e = .returned (.slice (some ⟨g, a + 1, none⟩) m (cap - (a + 1))) ∧ Blk w' rb (rdc g n cap a) 177 ∧ Fr (fun k => k = rb) w w' := by
 have r0 := hb.cell 0 rfl
 have r1 := hb.cell 1 rfl
 have z1 := hb.frz 1
 have hb1 : Blk (w.setCell ⟨rb, 1, none⟩ (.int .i64 (a : Int))) rb (rdc g n cap a) 177 := hb.set 1 _
 have s0 := hb1.cell 0 rfl
 have s1 := hb1.cell 1 rfl
 have HE := Lib.hid (And.intro hb1 ((Fr.refl (fun k => k = rb) w).put1 1 (.int .i64 (a : Int))))
 unfold maxLen at hmx
 obtain ⟨y, hy⟩ : ∃ y, Hid (a + m = y) := ⟨_, Lib.hid rfl⟩
 obtain ⟨p, hp⟩ : ∃ p, Hid (a + 1 = p) := ⟨_, Lib.hid rfl⟩
 obtain ⟨t, ht⟩ : ∃ t, Hid (p + m = t) := ⟨_, Lib.hid rfl⟩
 have hy' := hy.out
 have hp' := hp.out
 have ht' := ht.out
 rw [hy.out] at r1
 rw [hp.out]
 have e1 : IntKind.i64.wrap ((y : Int) - (m : Int)) = (a : Int) := by rw [IntWalk.i64_in _ (by omega)]; omega
 have e2 : ¬ (a : Int) < 15 := by omega
 have e3 : ¬ (8 : Int) < (m : Int) := by omega
 have e4 : IntKind.i64.wrap ((a : Int) + 1) = (p : Int) := by rw [IntWalk.i64_in _ (by omega)]; omega
 have e5 : IntKind.i64.wrap ((p : Int) + (m : Int)) = (t : Int) := by rw [IntWalk.i64_in _ (by omega)]; omega
 have e6 : (p : Int) ≤ (t : Int) := by omega
 have e7 : (t : Int) ≤ (cap : Int) := by omega
 have e8 : ¬ cap = p := by omega
 have e9 : t - p = m := by omega
 clear hb hb1 ha hm hc hmx hy' hp' ht'
 go_enter Tryz.func80, Tryz.ntmps80
 go_wp2_with fail
 refine wp_region_seqV (fun W => W.cell? ⟨rb, 0, none⟩ = some (.slice (some ⟨g, 0, none⟩) n cap) ∧ W.cell? ⟨rb, 1, none⟩ = some (.int .i64 (a : Int))) (fun i => decide (True)) (fun i => ![3, 7, 12].contains i && decide (True)) (fun i => false) [0, 1, 2, 3, 4, 5, 6, 7, 8, 9, 10, 11, 12, 13, 14, 15, 16, 17] (by kernel_rfl) (by kernel_rfl) (fun c a d v w h => by cases d <;> exact h) ⟨s0, s1⟩ ?_
 iterate 3 (apply seqV_pure (ho := rfl) (hr := rfl) (hg := rfl); (intro w'; go_simp; rfl))
 (apply seqV_read (ho := rfl) (hr := rfl) (hp := rfl) (hg := rfl); (rintro w' ⟨q0, q1⟩; go_simp; rfl))
 go_simp
 iterate 3 (apply seqV_pure (ho := rfl) (hr := rfl) (hg := rfl); (intro w'; go_simp; rfl))
 (apply seqV_read (ho := rfl) (hr := rfl) (hp := rfl) (hg := rfl); (rintro w' ⟨q0, q1⟩; go_simp; rfl))
 go_simp
 iterate 3 (apply seqV_pure (ho := rfl) (hr := rfl) (hg := rfl); (intro w'; go_simp; rfl))
 go_simp
 iterate 1 (apply seqV_pure (ho := rfl) (hr := rfl) (hg := rfl); (intro w'; go_simp; rfl))
 (apply seqV_read (ho := rfl) (hr := rfl) (hp := rfl) (hg := rfl); (rintro w' ⟨q0, q1⟩; go_simp; rfl))
 go_simp
 iterate 3 (apply seqV_pure (ho := rfl) (hr := rfl) (hg := rfl); (intro w'; go_simp; rfl))
 go_simp
 iterate 2 (apply seqV_pure (ho := rfl) (hr := rfl) (hg := rfl); (intro w'; go_simp; rfl))
 unfold seqV
 go_simp
 go_wp2_with fail
 go_ret
 exact ⟨rfl, HE.out.1.drew, HE.out.2.drew⟩
set_option maxHeartbeats 1000000 in
set_option maxRecDepth 100000 in
theorem rone_calls {w : World} {rb g n cap a x : Nat} (hb : Blk w rb (rdc g n cap (a + 1)) 177) (ha : 15 ≤ a) (hc : a + 2 < cap) (hmx : cap ≤ maxLen) (hgr : ¬ g = rb) (hx : w.cell? ⟨g, a + 1, none⟩ = some (.int .u8 (x : Int))) :
  Calls Tryz.prog 79 #[.pointer (some ⟨rb, 0, none⟩)] w fun e w' => e = .returned (.int .u8 (x : Int)) ∧ Blk w' rb (rdc g n cap a) 177 ∧ Fr (fun k => k = rb) w w' := by
 have htk := take_calls (m := 1) hb ha (by omega) (by omega) hmx
 have HX := Lib.hid hx
 clear hb hx ha hc hmx
 go_enter Tryz.func79, Tryz.ntmps79
 go_wp2_with fail
 refine htk.mono ?_
 rintro e w1 ⟨rfl, hb1, hF1⟩
 have r2 := hb1.cell 2 rfl
 have rx := hF1.cell HX.out hgr
 have HE := Lib.hid (And.intro hb1 hF1)
 clear htk hb1 hF1
 go_wp2_with fail
 go_ret
 exact ⟨rfl, HE.out⟩
end
end Go.Proofs.YtmhlnijpimjjaaaGreatDoor
