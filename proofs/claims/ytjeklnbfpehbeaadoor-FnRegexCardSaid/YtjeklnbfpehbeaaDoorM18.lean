/- The walk of 'begins' of the law's own side: whether the bytes of some rune of pairs begin with a text. Condition: the text is not empty, at most 100000 pairs. Where words that begin at some places of a text can end, and which beginnings of words stand at its end: plain laws for each way of making an expression. Condition: each part has some word. The words of each kind of expression in the words of the text Reach; each right expression has some word. Condition: the expression is right. The walk of 'Reached' of the law's own side at the simple kinds of expressions. Condition: the expression is right, the text at most 40 bytes. -/
import Derived.Test.YtjeklnbfpehbeaaDoorM17
import Derived.Test.YtjeklnbfpehbeaaDoorM15
import Derived.Test.YtjeklnbfpehbeaaDoorM16
set_option linter.unusedVariables false
/- The walk of 'begins' of the law's own side: whether the bytes of some rune of pairs begin with a text. Condition: the text is not empty, at most 100000 pairs. -/
namespace Go.Proofs.YtjeklnbfpehbeaaDoor
open Go.RowKit

theorem enc_len4 (c : Nat) : (enc c).length ≤ 4 := enc_len_le c
/-- The bytes of some rune of the pair begin with the text. -/
def PairBeg (s : List Nat) (q : Nat × Nat) : Prop := ∃ c, q.1 ≤ c ∧ c ≤ q.2 ∧ okRune c ∧ s <+: enc c
def SomeBeg (s : List Nat) (l : List (Nat × Nat)) : Prop := ∃ q, q ∈ l ∧ PairBeg s q
theorem pair_beg {s : List Nat} {x y : Nat} (hy : y ≤ 1114111) (h : ∀ c, c ≤ 1114111 → (s <+: enc c ↔ true = true ∧ x ≤ c ∧ c ≤ y)) {q : Nat × Nat} (hq : okRange q.1 q.2) {A B : Nat} (hA : A = max q.1 x) (hB : B = min q.2 y) :
    PairBeg s q ↔ A ≤ B ∧ (A < 55296 ∨ 57343 < B) := by
  have hq2 := hq.2.1.1
  constructor
  · rintro ⟨c, h1, h2, h3, h4⟩
    have h5 := (h c h3.1).1 h4
    have h6 := h3.2
    omega
  · rintro ⟨h1, h2⟩
    rcases h2 with h2 | h2
    · exact ⟨A, by omega, by omega, ⟨by omega, by omega⟩, (h A (by omega)).2 ⟨rfl, by omega, by omega⟩⟩
    · exact ⟨B, by omega, by omega, ⟨by omega, by omega⟩, (h B (by omega)).2 ⟨rfl, by omega, by omega⟩⟩

/-- The answer says whether, and nothing old is written. -/
def BgPost (w : World) (P : Prop) (e : Ending) (w' : World) : Prop := ∃ z : Bool, e = .returned (.bool z) ∧ (z = true ↔ P) ∧ Fr (fun _ => False) w w'

set_option maxRecDepth 100000 in
set_option maxHeartbeats 4000000 in
theorem begins_calls {w : World} {v : Value} {l : List (Nat × Nat)} (h : RunesAt w v (flat l)) (hl : l.length ≤ 100000) (hok : ∀ q, q ∈ l → okRange q.1 q.2) (t : ByteArray) (h0 : 0 < t.size) (ht : t.size ≤ 1000000) :
    Calls Tryd.prog 37 #[v, .string t] w fun e w' => BgPost w (SomeBeg (bytesOf t) l) e w' := by
  obtain ⟨A0, c, hv, -⟩ := id h
  obtain ⟨N, hN⟩ : ∃ N, Hid (N = (flat l).length) := ⟨_, Lib.hid rfl⟩
  have hN2 : N = 2 * l.length := by rw [hN.out, flat_len]
  rw [← hN.out] at hv
  subst hv
  obtain ⟨M, hM⟩ : ∃ M, M = l.length := ⟨_, rfl⟩
  rw [← hM] at hN2 hl
  have HC := Lib.hid (And.intro h (And.intro hM (And.intro hN2 hok)))
  have hNl : N ≤ 200000 := by omega
  have hne := str_full (t := t) (by omega)
  clear h hM hN2 hok
  by_cases h4 : 4 < t.size
  · have e4 : (4 : Int) < (t.size : Int) := by omega
    go_enter Tryd.func37, Tryd.ntmps37
    go_wp2_with fail
    go_ret
    refine ⟨false, rfl, ⟨fun e => by simp at e, ?_⟩, Fr.refl _ w⟩
    rintro ⟨q, -, c, -, -, -, hp⟩
    have h1 := hp.length_le
    have h2 := enc_len4 c
    rw [bytes_len] at h1
    omega
  have e4 : ¬ ((4 : Int) < (t.size : Int)) := by omega
  have hc := fun W => runes_calls W t h0 ht
  go_enter Tryd.func37, Tryd.ntmps37
  go_wp2_with fail
  refine (hc _).mono ?_
  rintro e w1 ⟨x, y, ok, rfl, hy, hiff, hf⟩
  clear hc
  have HL := Lib.hid (And.intro hy (And.intro hiff hf))
  clear hy hiff hf
  cases ok with
  | false =>
    have hno : Hid (¬ SomeBeg (bytesOf t) l) := Lib.hid (by
      rintro ⟨q, -, c, -, -, h1, h2⟩
      have := (HL.out.2.1 c h1.1).1 h2
      simp at this)
    by_cases hM0 : 1 < N
    · have e1 : (1 : Int) < (N : Int) := by omega
      go_wp2_with fail
      go_loopg [8] 1 (fun g i wr => g = 1 ∧ i = .int .i64 0 ∧ wr = w1)
      case atStart => exact ⟨rfl, rfl, rfl⟩
      case round =>
        obtain ⟨rfl, rfl, rfl⟩ := hrel
        go_wp2_with fail
        go_ret
        exact ⟨false, rfl, ⟨fun e => by simp at e, fun e => absurd e hno.out⟩, HL.out.2.2⟩
    · have e1 : ¬ ((1 : Int) < (N : Int)) := by omega
      go_wp2_with fail
      go_loopg [8] 1 (fun g i wr => g = 1 ∧ i = .int .i64 0 ∧ wr = w1)
      case atStart => exact ⟨rfl, rfl, rfl⟩
      case round =>
        obtain ⟨rfl, rfl, rfl⟩ := hrel
        go_wp2_with fail
        go_ret
        exact ⟨false, rfl, ⟨fun e => by simp at e, fun e => absurd e hno.out⟩, HL.out.2.2⟩
  | true =>
    go_wp2_with fail
    go_loopg [8] (M + 1) (fun g i wr => ∃ k t' : Nat, k ≤ M ∧ g = M - k + 1 ∧ i = .int .i64 (t' : Int) ∧ Hid (t' = 2 * k) ∧ Hid (∀ q, q ∈ l.take k → ¬ PairBeg (bytesOf t) q) ∧ Fr (fun _ => False) w1 wr)
    case atStart => exact ⟨0, 0, by omega, by omega, rfl, Lib.hid rfl, Lib.hid (by simp), Fr.refl _ w1⟩
    case round =>
      obtain ⟨k, t', hk, rfl, rfl, ht', hall, hfr⟩ := hrel
      have HF := Lib.hid hfr
      clear hfr
      by_cases hlt : k < M
      · obtain ⟨h, hM, hN2, hok⟩ := HC.out
        have ht2 := ht'.out
        have e1 : (t' : Int) + 1 < (N : Int) := by omega
        have e2 : (t' : Int) < (N : Int) := by omega
        have e01 : (0 : Int) ≤ (t' : Int) := by omega
        have e02 : (0 : Int) ≤ (t' : Int) + 1 := by omega
        have et : t' ≤ 300000 := by omega
        have ew0 : IntKind.i64.wrap (t' : Int) = (t' : Int) := IntWalk.i64_in _ (by omega)
        have ew1 : IntKind.i64.wrap ((t' : Int) + 1) = (t' : Int) + 1 := IntWalk.i64_in _ (by omega)
        have ew2 : wrap64 ((t' : Int) + 1) = (t' : Int) + 1 := IntWalk.wrap64_in _ (by omega)
        obtain ⟨q, hq⟩ : ∃ q, l[k]? = some q := ⟨_, List.getElem?_eq_getElem (by omega)⟩
        obtain ⟨f0, f1⟩ := flat_get hq
        rw [← ht2] at f0 f1
        obtain ⟨b, o, c', e3, r0⟩ := h.get f0
        obtain ⟨b', o', c'', e5, r1⟩ := h.get f1
        simp at e3 e5
        obtain ⟨rfl, -, rfl⟩ := e3
        simp at e5
        obtain ⟨⟨rfl, rfl⟩, -⟩ := e5
        have q0 : wr.drew.cell? ⟨b, o + t', none⟩ = some (.int .i32 (q.1 : Int)) := HF.out.drew.cell (HL.out.2.2.cell r0 (fun h => h)) (fun h => h)
        have q1 : wr.drew.cell? ⟨b, o + (t' + 1), none⟩ = some (.int .i32 (q.2 : Int)) := HF.out.drew.cell (HL.out.2.2.cell r1 (fun h => h)) (fun h => h)
        obtain ⟨QA, hQA⟩ : ∃ QA, QA = q.1 := ⟨_, rfl⟩
        obtain ⟨QB, hQB⟩ : ∃ QB, QB = q.2 := ⟨_, rfl⟩
        have hpb : Hid (∀ A B : Nat, A = max QA x → B = min QB y → (PairBeg (bytesOf t) q ↔ A ≤ B ∧ (A < 55296 ∨ 57343 < B))) := Lib.hid (fun A B hA hB => pair_beg (HL.out.1 trivial) (fun c hc => by have := HL.out.2.1 c hc; simpa using this) (hok q (List.mem_of_getElem? hq)) (by rw [hA, hQA]) (by rw [hB, hQB]))
        rw [← hQA] at q0
        rw [← hQB] at q1
        have hyes : Hid (PairBeg (bytesOf t) q → SomeBeg (bytesOf t) l) := Lib.hid (fun h => ⟨q, List.mem_of_getElem? hq, h⟩)
        have hnxt : Hid (¬ PairBeg (bytesOf t) q → ∀ q, q ∈ l.take (k + 1) → ¬ PairBeg (bytesOf t) q) := Lib.hid (fun hn q' hq' => by
          rw [take_snoc_getElem? hq] at hq'
          rcases List.mem_append.1 hq' with h | h
          · exact hall.out q' h
          · simp at h; subst h; exact hn)
        have hFd : Hid (Fr (fun _ => False) w1 wr.drew) := Lib.hid HF.out.drew
        clear h hM hN2 hok ht2 hq f0 f1 r0 r1 hQA hQB
        go_wp2_with fail
        by_cases p1 : x ≤ QA
        · have p1i : (x : Int) ≤ (QA : Int) := by omega
          have p1j : ¬ ((QA : Int) < (x : Int)) := by omega
          skip
          by_cases p2 : QB ≤ y
          · have p2i : (QB : Int) ≤ (y : Int) := by omega
            have p2j : ¬ ((y : Int) < (QB : Int)) := by omega
            refine wp_region_seqV (fun w' => w'.cell? ⟨b, o + t', none⟩ = some (.int .i32 (QA : Int)) ∧ w'.cell? ⟨b, o + (t' + 1), none⟩ = some (.int .i32 (QB : Int))) (fun i => true) (fun i => ![3, 10].contains i) (fun i => false) [0, 1, 2, 3, 4, 5, 6, 7, 8, 9, 10, 11, 12, 13, 14] (by kernel_rfl) (by kernel_rfl) (fun c a d v w h => by cases d <;> exact h) ⟨q0, q1⟩ ?_
            iterate 3 (apply seqV_pure (ho := rfl) (hr := rfl) (hg := rfl); (intro w'; go_simp; rfl))
            (apply seqV_read (ho := rfl) (hr := rfl) (hp := rfl) (hg := rfl); (rintro w' ⟨q1, q2⟩; go_simp; rfl))
            iterate 6 (apply seqV_pure (ho := rfl) (hr := rfl) (hg := rfl); (intro w'; go_simp; rfl))
            (apply seqV_read (ho := rfl) (hr := rfl) (hp := rfl) (hg := rfl); (rintro w' ⟨q1, q2⟩; go_simp; rfl))
            iterate 4 (apply seqV_pure (ho := rfl) (hr := rfl) (hg := rfl); (intro w'; go_simp; rfl))
            unfold seqV
            clear q0 q1
            generalize wr.drew = W2 at *
            have hp := Lib.hid (hpb.out QA QB (by omega) (by omega))
            by_cases c1 : QA ≤ QB
            · have c1i : (QA : Int) ≤ (QB : Int) := by omega
              by_cases c2 : QA < 55296
              · have c2i : (QA : Int) < 55296 := by omega
                go_wp2_with fail
                go_ret
                exact ⟨true, rfl, ⟨fun _ => hyes.out (hp.out.2 (by omega)), fun _ => rfl⟩, HL.out.2.2.trans hFd.out (fun _ _ h => h)⟩
              · have c2i : ¬ ((QA : Int) < 55296) := by omega
                by_cases c3 : 57343 < QB
                · have c3i : (57343 : Int) < (QB : Int) := by omega
                  go_wp2_with fail
                  go_ret
                  exact ⟨true, rfl, ⟨fun _ => hyes.out (hp.out.2 (by omega)), fun _ => rfl⟩, HL.out.2.2.trans hFd.out (fun _ _ h => h)⟩
                · have c3i : ¬ ((57343 : Int) < (QB : Int)) := by omega
                  go_wp2_with fail
                  go_roundg (M - (k + 1) + 1)
                  case measure => omega
                  case rel => exact ⟨k + 1, t' + 2, by omega, rfl, by simp, Lib.hid (by have := ht'.out; omega), Lib.hid (hnxt.out (fun h => by have := hp.out.1 h; omega)), hFd.out⟩
            · have c1i : ¬ ((QA : Int) ≤ (QB : Int)) := by omega
              go_wp2_with fail
              go_roundg (M - (k + 1) + 1)
              case measure => omega
              case rel => exact ⟨k + 1, t' + 2, by omega, rfl, by simp, Lib.hid (by have := ht'.out; omega), Lib.hid (hnxt.out (fun h => by have := hp.out.1 h; omega)), hFd.out⟩
          · have p2i : ¬ ((QB : Int) ≤ (y : Int)) := by omega
            have p2j : (y : Int) < (QB : Int) := by omega
            refine wp_region_seqV (fun w' => w'.cell? ⟨b, o + t', none⟩ = some (.int .i32 (QA : Int)) ∧ w'.cell? ⟨b, o + (t' + 1), none⟩ = some (.int .i32 (QB : Int))) (fun i => true) (fun i => ![3, 10].contains i) (fun i => false) [0, 1, 2, 3, 4, 5, 6, 7, 8, 9, 10, 11, 12, 13, 14] (by kernel_rfl) (by kernel_rfl) (fun c a d v w h => by cases d <;> exact h) ⟨q0, q1⟩ ?_
            iterate 3 (apply seqV_pure (ho := rfl) (hr := rfl) (hg := rfl); (intro w'; go_simp; rfl))
            (apply seqV_read (ho := rfl) (hr := rfl) (hp := rfl) (hg := rfl); (rintro w' ⟨q1, q2⟩; go_simp; rfl))
            iterate 6 (apply seqV_pure (ho := rfl) (hr := rfl) (hg := rfl); (intro w'; go_simp; rfl))
            (apply seqV_read (ho := rfl) (hr := rfl) (hp := rfl) (hg := rfl); (rintro w' ⟨q1, q2⟩; go_simp; rfl))
            iterate 4 (apply seqV_pure (ho := rfl) (hr := rfl) (hg := rfl); (intro w'; go_simp; rfl))
            unfold seqV
            clear q0 q1
            generalize wr.drew = W2 at *
            have hp := Lib.hid (hpb.out QA y (by omega) (by omega))
            by_cases c1 : QA ≤ y
            · have c1i : (QA : Int) ≤ (y : Int) := by omega
              by_cases c2 : QA < 55296
              · have c2i : (QA : Int) < 55296 := by omega
                go_wp2_with fail
                go_ret
                exact ⟨true, rfl, ⟨fun _ => hyes.out (hp.out.2 (by omega)), fun _ => rfl⟩, HL.out.2.2.trans hFd.out (fun _ _ h => h)⟩
              · have c2i : ¬ ((QA : Int) < 55296) := by omega
                by_cases c3 : 57343 < y
                · have c3i : (57343 : Int) < (y : Int) := by omega
                  go_wp2_with fail
                  go_ret
                  exact ⟨true, rfl, ⟨fun _ => hyes.out (hp.out.2 (by omega)), fun _ => rfl⟩, HL.out.2.2.trans hFd.out (fun _ _ h => h)⟩
                · have c3i : ¬ ((57343 : Int) < (y : Int)) := by omega
                  go_wp2_with fail
                  go_roundg (M - (k + 1) + 1)
                  case measure => omega
                  case rel => exact ⟨k + 1, t' + 2, by omega, rfl, by simp, Lib.hid (by have := ht'.out; omega), Lib.hid (hnxt.out (fun h => by have := hp.out.1 h; omega)), hFd.out⟩
            · have c1i : ¬ ((QA : Int) ≤ (y : Int)) := by omega
              go_wp2_with fail
              go_roundg (M - (k + 1) + 1)
              case measure => omega
              case rel => exact ⟨k + 1, t' + 2, by omega, rfl, by simp, Lib.hid (by have := ht'.out; omega), Lib.hid (hnxt.out (fun h => by have := hp.out.1 h; omega)), hFd.out⟩
        · have p1i : ¬ ((x : Int) ≤ (QA : Int)) := by omega
          have p1j : (QA : Int) < (x : Int) := by omega
          have p1k : (QA : Int) ≤ (x : Int) := by omega
          by_cases p2 : QB ≤ y
          · have p2i : (QB : Int) ≤ (y : Int) := by omega
            have p2j : ¬ ((y : Int) < (QB : Int)) := by omega
            refine wp_region_seqV (fun w' => w'.cell? ⟨b, o + t', none⟩ = some (.int .i32 (QA : Int)) ∧ w'.cell? ⟨b, o + (t' + 1), none⟩ = some (.int .i32 (QB : Int))) (fun i => true) (fun i => ![3, 10].contains i) (fun i => false) [0, 1, 2, 3, 4, 5, 6, 7, 8, 9, 10, 11, 12, 13, 14] (by kernel_rfl) (by kernel_rfl) (fun c a d v w h => by cases d <;> exact h) ⟨q0, q1⟩ ?_
            iterate 3 (apply seqV_pure (ho := rfl) (hr := rfl) (hg := rfl); (intro w'; go_simp; rfl))
            (apply seqV_read (ho := rfl) (hr := rfl) (hp := rfl) (hg := rfl); (rintro w' ⟨q1, q2⟩; go_simp; rfl))
            iterate 6 (apply seqV_pure (ho := rfl) (hr := rfl) (hg := rfl); (intro w'; go_simp; rfl))
            (apply seqV_read (ho := rfl) (hr := rfl) (hp := rfl) (hg := rfl); (rintro w' ⟨q1, q2⟩; go_simp; rfl))
            iterate 4 (apply seqV_pure (ho := rfl) (hr := rfl) (hg := rfl); (intro w'; go_simp; rfl))
            unfold seqV
            clear q0 q1
            generalize wr.drew = W2 at *
            have hp := Lib.hid (hpb.out x QB (by omega) (by omega))
            by_cases c1 : x ≤ QB
            · have c1i : (x : Int) ≤ (QB : Int) := by omega
              by_cases c2 : x < 55296
              · have c2i : (x : Int) < 55296 := by omega
                go_wp2_with fail
                go_ret
                exact ⟨true, rfl, ⟨fun _ => hyes.out (hp.out.2 (by omega)), fun _ => rfl⟩, HL.out.2.2.trans hFd.out (fun _ _ h => h)⟩
              · have c2i : ¬ ((x : Int) < 55296) := by omega
                by_cases c3 : 57343 < QB
                · have c3i : (57343 : Int) < (QB : Int) := by omega
                  go_wp2_with fail
                  go_ret
                  exact ⟨true, rfl, ⟨fun _ => hyes.out (hp.out.2 (by omega)), fun _ => rfl⟩, HL.out.2.2.trans hFd.out (fun _ _ h => h)⟩
                · have c3i : ¬ ((57343 : Int) < (QB : Int)) := by omega
                  go_wp2_with fail
                  go_roundg (M - (k + 1) + 1)
                  case measure => omega
                  case rel => exact ⟨k + 1, t' + 2, by omega, rfl, by simp, Lib.hid (by have := ht'.out; omega), Lib.hid (hnxt.out (fun h => by have := hp.out.1 h; omega)), hFd.out⟩
            · have c1i : ¬ ((x : Int) ≤ (QB : Int)) := by omega
              go_wp2_with fail
              go_roundg (M - (k + 1) + 1)
              case measure => omega
              case rel => exact ⟨k + 1, t' + 2, by omega, rfl, by simp, Lib.hid (by have := ht'.out; omega), Lib.hid (hnxt.out (fun h => by have := hp.out.1 h; omega)), hFd.out⟩
          · have p2i : ¬ ((QB : Int) ≤ (y : Int)) := by omega
            have p2j : (y : Int) < (QB : Int) := by omega
            refine wp_region_seqV (fun w' => w'.cell? ⟨b, o + t', none⟩ = some (.int .i32 (QA : Int)) ∧ w'.cell? ⟨b, o + (t' + 1), none⟩ = some (.int .i32 (QB : Int))) (fun i => true) (fun i => ![3, 10].contains i) (fun i => false) [0, 1, 2, 3, 4, 5, 6, 7, 8, 9, 10, 11, 12, 13, 14] (by kernel_rfl) (by kernel_rfl) (fun c a d v w h => by cases d <;> exact h) ⟨q0, q1⟩ ?_
            iterate 3 (apply seqV_pure (ho := rfl) (hr := rfl) (hg := rfl); (intro w'; go_simp; rfl))
            (apply seqV_read (ho := rfl) (hr := rfl) (hp := rfl) (hg := rfl); (rintro w' ⟨q1, q2⟩; go_simp; rfl))
            iterate 6 (apply seqV_pure (ho := rfl) (hr := rfl) (hg := rfl); (intro w'; go_simp; rfl))
            (apply seqV_read (ho := rfl) (hr := rfl) (hp := rfl) (hg := rfl); (rintro w' ⟨q1, q2⟩; go_simp; rfl))
            iterate 4 (apply seqV_pure (ho := rfl) (hr := rfl) (hg := rfl); (intro w'; go_simp; rfl))
            unfold seqV
            clear q0 q1
            generalize wr.drew = W2 at *
            have hp := Lib.hid (hpb.out x y (by omega) (by omega))
            by_cases c1 : x ≤ y
            · have c1i : (x : Int) ≤ (y : Int) := by omega
              by_cases c2 : x < 55296
              · have c2i : (x : Int) < 55296 := by omega
                go_wp2_with fail
                go_ret
                exact ⟨true, rfl, ⟨fun _ => hyes.out (hp.out.2 (by omega)), fun _ => rfl⟩, HL.out.2.2.trans hFd.out (fun _ _ h => h)⟩
              · have c2i : ¬ ((x : Int) < 55296) := by omega
                by_cases c3 : 57343 < y
                · have c3i : (57343 : Int) < (y : Int) := by omega
                  go_wp2_with fail
                  go_ret
                  exact ⟨true, rfl, ⟨fun _ => hyes.out (hp.out.2 (by omega)), fun _ => rfl⟩, HL.out.2.2.trans hFd.out (fun _ _ h => h)⟩
                · have c3i : ¬ ((57343 : Int) < (y : Int)) := by omega
                  go_wp2_with fail
                  go_roundg (M - (k + 1) + 1)
                  case measure => omega
                  case rel => exact ⟨k + 1, t' + 2, by omega, rfl, by simp, Lib.hid (by have := ht'.out; omega), Lib.hid (hnxt.out (fun h => by have := hp.out.1 h; omega)), hFd.out⟩
            · have c1i : ¬ ((x : Int) ≤ (y : Int)) := by omega
              go_wp2_with fail
              go_roundg (M - (k + 1) + 1)
              case measure => omega
              case rel => exact ⟨k + 1, t' + 2, by omega, rfl, by simp, Lib.hid (by have := ht'.out; omega), Lib.hid (hnxt.out (fun h => by have := hp.out.1 h; omega)), hFd.out⟩
      · have e1 : ¬ ((t' : Int) + 1 < (N : Int)) := by have := ht'.out; have := HC.out.2.2.1; omega
        have et : t' ≤ 300000 := by have := ht'.out; omega
        go_wp2_with fail
        go_ret
        refine ⟨false, rfl, ⟨fun e => by simp at e, ?_⟩, HL.out.2.2.trans HF.out (fun _ _ h => h)⟩
        rintro ⟨q, hq, hp⟩
        have := hall.out q
        rw [List.take_of_length_le (by rw [← HC.out.2.1]; omega)] at this
        exact absurd hp (this hq)
end Go.Proofs.YtjeklnbfpehbeaaDoor

/- Where words that begin at some places of a text can end, and which beginnings of words stand at its end: plain laws for each way of making an expression. Condition: each part has some word. -/
namespace Go.Proofs.YtjeklnbfpehbeaaDoor

/-- The bytes from i up to j. -/
def cutB (bs : List Nat) (i j : Nat) : List Nat := (bs.drop i).take (j - i)
/-- The places at which words that begin at places of S can end. -/
def Ends (L : Words) (bs : List Nat) (S : Nat → Prop) (j : Nat) : Prop := j ≤ bs.length ∧ ∃ i, i ≤ j ∧ S i ∧ L (cutB bs i j)
/-- What is left of the text from some place of S on is the beginning of a word. -/
def Begs (L : Words) (bs : List Nat) (S : Nat → Prop) : Prop := ∃ i, i ≤ bs.length ∧ S i ∧ ∃ v, L (bs.drop i ++ v)

theorem cut_len {bs : List Nat} {i j : Nat} (hj : j ≤ bs.length) : (cutB bs i j).length = j - i := by
  unfold cutB; rw [List.length_take, List.length_drop]; omega
theorem cut_app {bs : List Nat} {i k j : Nat} (h1 : i ≤ k) (h2 : k ≤ j) : cutB bs i k ++ cutB bs k j = cutB bs i j := by
  unfold cutB
  rw [show j - i = (k - i) + (j - k) by omega, List.take_add, List.drop_drop, show i + (k - i) = k by omega]
theorem cut_drop {bs : List Nat} {i k : Nat} (h1 : i ≤ k) : cutB bs i k ++ bs.drop k = bs.drop i := by
  unfold cutB
  have := List.take_append_drop (k - i) (bs.drop i)
  rw [List.drop_drop, show i + (k - i) = k by omega] at this
  exact this
theorem cut_split {bs : List Nat} {i j : Nat} {u v : List Nat} (hj : j ≤ bs.length) (hij : i ≤ j) (h : cutB bs i j = u ++ v) : i + u.length ≤ j ∧ cutB bs i (i + u.length) = u ∧ cutB bs (i + u.length) j = v := by
  have hl := cut_len (i := i) hj
  rw [h, List.length_append] at hl
  have h1 : i + u.length ≤ j := by omega
  have h2 := cut_app (bs := bs) (i := i) (k := i + u.length) (j := j) (by omega) h1
  rw [h] at h2
  have h3 := cut_len (bs := bs) (i := i) (j := i + u.length) (by omega)
  have := List.append_inj h2 (by omega)
  exact ⟨h1, this.1, this.2⟩

section
variable {L M : Words} {bs : List Nat} {S T : Nat → Prop}
theorem ends_mono (hw : ∀ w, w.length ≤ bs.length → (L w ↔ M w)) (hS : ∀ i, i ≤ bs.length → (S i ↔ T i)) (j : Nat) : Ends L bs S j ↔ Ends M bs T j := by
  unfold Ends
  constructor
  · rintro ⟨hj, i, h1, h2, h3⟩
    exact ⟨hj, i, h1, (hS i (by omega)).1 h2, (hw _ (by rw [cut_len hj]; omega)).1 h3⟩
  · rintro ⟨hj, i, h1, h2, h3⟩
    exact ⟨hj, i, h1, (hS i (by omega)).2 h2, (hw _ (by rw [cut_len hj]; omega)).2 h3⟩
theorem begs_mono (hw : ∀ w, L w ↔ M w) (hS : ∀ i, i ≤ bs.length → (S i ↔ T i)) : Begs L bs S ↔ Begs M bs T := by
  unfold Begs
  constructor
  · rintro ⟨i, h1, h2, v, h3⟩
    exact ⟨i, h1, (hS i h1).1 h2, v, (hw _).1 h3⟩
  · rintro ⟨i, h1, h2, v, h3⟩
    exact ⟨i, h1, (hS i h1).2 h2, v, (hw _).2 h3⟩
theorem ends_one (j : Nat) : Ends One_ bs S j ↔ j ≤ bs.length ∧ S j := by
  constructor
  · rintro ⟨hj, i, h1, h2, h3⟩
    have := cut_len (i := i) hj
    rw [show cutB bs i j = [] from h3] at this
    simp at this
    obtain rfl : i = j := by omega
    exact ⟨hj, h2⟩
  · rintro ⟨hj, h⟩
    exact ⟨hj, j, Nat.le_refl _, h, by simp [One_, cutB]⟩
theorem ends_seq (j : Nat) : Ends (Seq_ L M) bs S j ↔ Ends M bs (Ends L bs S) j := by
  constructor
  · rintro ⟨hj, i, h1, h2, u, v, h3, h4, h5⟩
    obtain ⟨k1, k2, k3⟩ := cut_split hj h1 h3
    refine ⟨hj, i + u.length, k1, ⟨by omega, i, by omega, h2, by rw [k2]; exact h4⟩, by rw [k3]; exact h5⟩
  · rintro ⟨hj, k, h1, ⟨hk, i, h2, h3, h4⟩, h5⟩
    exact ⟨hj, i, by omega, h3, _, _, (cut_app h2 h1).symm, h4, h5⟩
theorem ends_or (j : Nat) : Ends (fun w => L w ∨ M w) bs S j ↔ Ends L bs S j ∨ Ends M bs S j := by
  constructor
  · rintro ⟨hj, i, h1, h2, h3 | h3⟩
    · exact .inl ⟨hj, i, h1, h2, h3⟩
    · exact .inr ⟨hj, i, h1, h2, h3⟩
  · rintro (⟨hj, i, h1, h2, h3⟩ | ⟨hj, i, h1, h2, h3⟩)
    · exact ⟨hj, i, h1, h2, .inl h3⟩
    · exact ⟨hj, i, h1, h2, .inr h3⟩

theorem begs_end (h : S bs.length) (hL : ∃ w, L w) : Begs L bs S := by
  obtain ⟨w, hw⟩ := hL
  exact ⟨bs.length, Nat.le_refl _, h, w, by simpa using hw⟩
theorem begs_one : Begs One_ bs S ↔ S bs.length := by
  constructor
  · rintro ⟨i, h1, h2, v, h3⟩
    have h3 : bs.drop i ++ v = [] := h3
    rw [List.append_eq_nil_iff, List.drop_eq_nil_iff] at h3
    obtain rfl : i = bs.length := by omega
    exact h2
  · intro h
    exact begs_end h ⟨[], rfl⟩
theorem begs_seq (hM : ∃ w, M w) : Begs (Seq_ L M) bs S ↔ Begs L bs S ∨ Begs M bs (Ends L bs S) := by
  constructor
  · rintro ⟨i, h1, h2, v, u, x, h3, h4, h5⟩
    rcases Nat.lt_or_ge (bs.drop i).length u.length with hlt | hge
    · left
      obtain ⟨z, rfl⟩ : bs.drop i <+: u := List.prefix_of_prefix_length_le ⟨v, h3⟩ ⟨x, rfl⟩ (Nat.le_of_lt hlt)
      exact ⟨i, h1, h2, z, h4⟩
    · right
      obtain ⟨z, hz⟩ : u <+: bs.drop i := List.prefix_of_prefix_length_le ⟨x, h3.symm⟩ ⟨v, rfl⟩ hge
      have hl : (bs.drop i).length = bs.length - i := List.length_drop ..
      have hk : i + u.length ≤ bs.length := by omega
      have hd : bs.drop (i + u.length) = z := by
        rw [← List.drop_drop, ← hz, List.drop_left']
        rfl
      refine ⟨i + u.length, hk, ⟨hk, i, by omega, h2, ?_⟩, v, ?_⟩
      · have : cutB bs i (i + u.length) = u := by
          unfold cutB
          rw [Nat.add_sub_cancel_left, ← hz, List.take_left']
          rfl
        rw [this]; exact h4
      · rw [hd]
        rw [← hz, List.append_assoc] at h3
        have := (List.append_inj h3 rfl).2
        rw [this]
        exact h5
  · rintro (⟨i, h1, h2, v, h3⟩ | ⟨k, h1, ⟨hk, i, h2, h3, h4⟩, v, h5⟩)
    · obtain ⟨w, hw⟩ := hM
      exact ⟨i, h1, h2, v ++ w, _, w, (List.append_assoc _ _ _).symm, h3, hw⟩
    · refine ⟨i, by omega, h3, v, _, _, ?_, h4, h5⟩
      rw [← List.append_assoc, cut_drop h2]
end

theorem pow_add {L : Words} (a b : Nat) (w : List Nat) : Pow_ L (a + b) w ↔ Seq_ (Pow_ L a) (Pow_ L b) w := by
  induction a generalizing w with
  | zero =>
    rw [Nat.zero_add]
    constructor
    · intro h; exact ⟨[], w, rfl, rfl, h⟩
    · rintro ⟨u, v, rfl, hu, hv⟩
      have hu : u = [] := hu
      rw [hu]; exact hv
  | succ a ih =>
    rw [Nat.add_right_comm]
    constructor
    · rintro ⟨u, v, rfl, hu, hv⟩
      obtain ⟨x, y, rfl, hx, hy⟩ := (ih v).1 hv
      exact ⟨u ++ x, y, (List.append_assoc _ _ _).symm, ⟨u, x, rfl, hu, hx⟩, hy⟩
    · rintro ⟨u, v, rfl, ⟨x, y, rfl, hx, hy⟩, hv⟩
      exact ⟨x, y ++ v, List.append_assoc _ _ _, hx, (ih _).2 ⟨y, v, rfl, hy, hv⟩⟩
theorem pow_one {L : Words} (w : List Nat) : Pow_ L 1 w ↔ L w := by
  constructor
  · rintro ⟨u, v, rfl, hu, hv⟩
    have hv : v = [] := hv
    rw [hv, List.append_nil]; exact hu
  · intro h; exact ⟨w, [], (List.append_nil _).symm, h, rfl⟩
theorem pow_snoc {L : Words} (k : Nat) (w : List Nat) : Pow_ L (k + 1) w ↔ Seq_ (Pow_ L k) L w := by
  rw [pow_add]
  constructor
  · rintro ⟨u, v, rfl, hu, hv⟩; exact ⟨u, v, rfl, hu, (pow_one v).1 hv⟩
  · rintro ⟨u, v, rfl, hu, hv⟩; exact ⟨u, v, rfl, hu, (pow_one v).2 hv⟩
theorem pow_some {L : Words} (h : ∃ w, L w) : ∀ k, ∃ w, Pow_ L k w
  | 0 => ⟨[], rfl⟩
  | k + 1 => by
    obtain ⟨u, hu⟩ := h
    obtain ⟨v, hv⟩ := pow_some ⟨u, hu⟩ k
    exact ⟨u ++ v, u, v, rfl, hu, hv⟩
/-- Parts of no bytes may be left out. -/
theorem pow_few {L : Words} : ∀ (k : Nat) (w : List Nat), Pow_ L k w → ∃ m, m ≤ w.length ∧ m ≤ k ∧ Pow_ L m w
  | 0, w, h => by
    have h : w = [] := h
    exact ⟨0, by omega, by omega, h⟩
  | k + 1, w, h => by
    obtain ⟨u, v, rfl, hu, hv⟩ := h
    obtain ⟨m, h1, h2, h3⟩ := pow_few k v hv
    cases u with
    | nil => exact ⟨m, by simpa using h1, by omega, by simpa using h3⟩
    | cons x u => exact ⟨m + 1, by simp only [List.length_append, List.length_cons]; omega, by omega, _, v, rfl, hu, h3⟩

/-- From lo to hi parts. -/
def RepW (L : Words) (lo : Nat) (hi : Option Nat) : Words := fun w => ∃ j, lo ≤ j ∧ (∀ m, hi = some m → j ≤ m) ∧ Pow_ L j w
/-- Up to so many rounds more. -/
def UpW (L : Words) (lo m : Nat) : Words := fun w => ∃ j, lo ≤ j ∧ j ≤ lo + m ∧ Pow_ L j w
theorem up_zero {L : Words} {lo : Nat} (w : List Nat) : UpW L lo 0 w ↔ Pow_ L lo w := by
  constructor
  · rintro ⟨j, h1, h2, h3⟩
    obtain rfl : j = lo := by omega
    exact h3
  · intro h; exact ⟨lo, Nat.le_refl _, Nat.le_refl _, h⟩
theorem up_succ {L : Words} {lo m : Nat} (w : List Nat) : UpW L lo (m + 1) w ↔ UpW L lo m w ∨ Pow_ L (lo + (m + 1)) w := by
  constructor
  · rintro ⟨j, h1, h2, h3⟩
    by_cases e : j = lo + (m + 1)
    · subst e; exact .inr h3
    · exact .inl ⟨j, h1, by omega, h3⟩
  · rintro (⟨j, h1, h2, h3⟩ | h)
    · exact ⟨j, h1, by omega, h3⟩
    · exact ⟨_, by omega, by omega, h⟩
theorem up_many {L : Words} {lo n : Nat} (w : List Nat) (hw : w.length ≤ n) : UpW L lo (n + 1) w ↔ RepW L lo none w := by
  constructor
  · rintro ⟨j, h1, h2, h3⟩
    exact ⟨j, h1, (fun _ h => nomatch h), h3⟩
  · rintro ⟨j, h1, -, h3⟩
    obtain ⟨d, rfl⟩ : ∃ d, j = lo + d := ⟨j - lo, by omega⟩
    obtain ⟨u, v, rfl, hu, hv⟩ := (pow_add lo d w).1 h3
    obtain ⟨m, k1, k2, k3⟩ := pow_few d v hv
    exact ⟨lo + m, by omega, by simp only [List.length_append] at hw; omega, (pow_add lo m _).2 ⟨u, v, rfl, hu, k3⟩⟩
theorem up_some {L : Words} {lo hi : Nat} (h : lo ≤ hi) (w : List Nat) : UpW L lo (hi - lo) w ↔ RepW L lo (some hi) w := by
  constructor
  · rintro ⟨j, h1, h2, h3⟩
    exact ⟨j, h1, fun m hm => by injection hm with hm; omega, h3⟩
  · rintro ⟨j, h1, h2, h3⟩
    have := h2 hi rfl
    exact ⟨j, h1, by omega, h3⟩

section
variable {L : Words} {bs : List Nat} {S : Nat → Prop}
theorem begs_pow (hL : ∃ w, L w) : ∀ (j : Nat) (S : Nat → Prop), Begs (Pow_ L j) bs S → S bs.length ∨ ∃ k, k < j ∧ Begs L bs (Ends (Pow_ L k) bs S)
  | 0, S, h => .inl (begs_one.1 h)
  | j + 1, S, h => by
    rcases (begs_seq (pow_some hL j)).1 h with h | h
    · exact .inr ⟨0, by omega, (begs_mono (fun _ => Iff.rfl) (fun i hi => by rw [show Pow_ L 0 = One_ from rfl, ends_one]; exact ⟨fun h => ⟨hi, h⟩, fun h => h.2⟩)).1 h⟩
    · rcases begs_pow hL j _ h with ⟨hk, i, h1, h2, h3⟩ | ⟨k, hk, h⟩
      · right
        exact ⟨0, by omega, i, by omega, ends_one i |>.2 ⟨by omega, h2⟩, [], by
          have : cutB bs i bs.length = bs.drop i := by unfold cutB; rw [List.take_of_length_le (by rw [List.length_drop]; exact Nat.le_refl _)]
          rw [this] at h3
          simpa using h3⟩
      · right
        refine ⟨k + 1, by omega, (begs_mono (fun _ => Iff.rfl) (fun i hi => ?_)).1 h⟩
        rw [show Pow_ L (k + 1) = Seq_ L (Pow_ L k) from rfl, ends_seq]
theorem pow_begs (hL : ∃ w, L w) {k j : Nat} (hkj : k + 1 ≤ j) (h : Begs L bs (Ends (Pow_ L k) bs S)) : Begs (Pow_ L j) bs S := by
  obtain ⟨d, rfl⟩ : ∃ d, j = k + 1 + d := ⟨j - (k + 1), by omega⟩
  have h1 : Begs (Pow_ L (k + 1)) bs S := (begs_mono (fun w => pow_snoc k w) (fun i _ => Iff.rfl)).2 ((begs_seq hL).2 (.inr h))
  exact (begs_mono (fun w => pow_add (k + 1) d w) (fun i _ => Iff.rfl)).2 ((begs_seq (pow_some hL d)).2 (.inl h1))
/-- A beginning of some repetition stands in one of the first rounds. -/
theorem begs_rep (hL : ∃ w, L w) {lo : Nat} {hi : Option Nat} (hlh : ∀ m, hi = some m → lo ≤ m) (hn : ¬ S bs.length) :
    Begs (RepW L lo hi) bs S ↔ ∃ k, (∀ m, hi = some m → k < m) ∧ (hi = none → k ≤ bs.length) ∧ Begs L bs (Ends (Pow_ L k) bs S) := by
  constructor
  · rintro ⟨i, h1, h2, v, j, h3, h4, h5⟩
    rcases begs_pow hL j S ⟨i, h1, h2, v, h5⟩ with h | ⟨k, hk, h⟩
    · exact absurd h hn
    cases hi with
    | some m => exact ⟨k, fun m' hm => by have := h4 m' hm; omega, (fun e => nomatch e), h⟩
    | none =>
      obtain ⟨p, h6, ⟨hp, q, h7, h8, h9⟩, v, h10⟩ := h
      obtain ⟨m, k1, k2, k3⟩ := pow_few k _ h9
      rw [cut_len hp] at k1
      exact ⟨m, (fun _ e => nomatch e), fun _ => by omega, p, h6, ⟨hp, q, h7, h8, k3⟩, v, h10⟩
  · rintro ⟨k, h1, -, h⟩
    obtain ⟨i, h2, h3, v, h4⟩ := pow_begs hL (j := max (k + 1) lo) (by omega) h
    exact ⟨i, h2, h3, v, _, by omega, fun m hm => by have := h1 m hm; have := hlh m hm; omega, h4⟩
end
end Go.Proofs.YtjeklnbfpehbeaaDoor

/- The words of each kind of expression in the words of the text Reach; each right expression has some word. Condition: the expression is right. -/
namespace Go.Proofs.YtjeklnbfpehbeaaDoor

theorem seq_star {L : Words} (n : Nat) (w : List Nat) : Seq_ (Pow_ L n) (Star_ L) w ↔ RepW L n none w := by
  constructor
  · rintro ⟨u, v, rfl, hu, k, hv⟩
    exact ⟨n + k, by omega, (fun _ h => nomatch h), (pow_add n k _).2 ⟨u, v, rfl, hu, hv⟩⟩
  · rintro ⟨j, h1, -, h3⟩
    obtain ⟨d, rfl⟩ : ∃ d, j = n + d := ⟨j - n, by omega⟩
    obtain ⟨u, v, rfl, hu, hv⟩ := (pow_add n d w).1 h3
    exact ⟨u, v, rfl, hu, d, hv⟩
theorem lang_star (r : RE) (w : List Nat) : Lang (.star r) w ↔ RepW (Lang r) 0 none w := by
  simp only [Lang]
  exact ⟨fun ⟨k, h⟩ => ⟨k, by omega, (fun _ h => nomatch h), h⟩, fun ⟨k, _, _, h⟩ => ⟨k, h⟩⟩
theorem lang_plus (r : RE) (w : List Nat) : Lang (.plus r) w ↔ RepW (Lang r) 1 none w := by
  rw [← seq_star]
  simp only [Lang]
  exact ⟨fun ⟨u, v, e, hu, hv⟩ => ⟨u, v, e, (pow_one u).2 hu, hv⟩, fun ⟨u, v, e, hu, hv⟩ => ⟨u, v, e, (pow_one u).1 hu, hv⟩⟩
theorem lang_quest (r : RE) (w : List Nat) : Lang (.quest r) w ↔ RepW (Lang r) 0 (some 1) w := by
  simp only [Lang]
  constructor
  · rintro (rfl | h)
    · exact ⟨0, by omega, fun m hm => by omega, rfl⟩
    · exact ⟨1, by omega, fun m hm => by injection hm with hm; omega, (pow_one w).2 h⟩
  · rintro ⟨j, -, h2, h3⟩
    have := h2 1 rfl
    have h : j = 0 ∨ j = 1 := by omega
    rcases h with rfl | rfl
    · exact .inl h3
    · exact .inr ((pow_one w).1 h3)
theorem lang_rep0 (mn : Nat) (r : RE) (w : List Nat) : Lang (.rep mn none r) w ↔ RepW (Lang r) mn none w := by
  rw [← seq_star]
  simp only [Lang]
theorem lang_rep1 (mn mx : Nat) (h : mn ≤ mx) (r : RE) (w : List Nat) : Lang (.rep mn (some mx) r) w ↔ RepW (Lang r) mn (some mx) w := by
  simp only [Lang]
  constructor
  · rintro ⟨u, v, rfl, hu, j, hj, hv⟩
    exact ⟨mn + j, by omega, fun m hm => by injection hm with hm; omega, (pow_add mn j _).2 ⟨u, v, rfl, hu, hv⟩⟩
  · rintro ⟨j, h1, h2, h3⟩
    obtain ⟨d, rfl⟩ : ∃ d, j = mn + d := ⟨j - mn, by omega⟩
    obtain ⟨u, v, rfl, hu, hv⟩ := (pow_add mn d w).1 h3
    have := h2 mx rfl
    exact ⟨u, v, rfl, hu, d, by omega, hv⟩

/-- What a node repeats, and how often. -/
def timesOf : RE → Option (RE × Nat × Option Nat)
  | .star r => some (r, 0, none)
  | .plus r => some (r, 1, none)
  | .quest r => some (r, 0, some 1)
  | .rep mn mx r => some (r, mn, mx)
  | _ => none
theorem lang_times {q r : RE} {lo : Nat} {hi : Option Nat} (h : WfR q) (ht : timesOf q = some (r, lo, hi)) : (∀ w, Lang q w ↔ RepW (Lang r) lo hi w) ∧ WfR r ∧ (∀ m, hi = some m → lo ≤ m ∧ m ≤ 1000) ∧ lo ≤ 1000 := by
  cases q with
  | star r' => simp only [timesOf, Option.some.injEq, Prod.mk.injEq] at ht; obtain ⟨rfl, rfl, rfl⟩ := ht; simp only [WfR] at h; exact ⟨lang_star _, h, (fun _ e => nomatch e), by omega⟩
  | plus r' => simp only [timesOf, Option.some.injEq, Prod.mk.injEq] at ht; obtain ⟨rfl, rfl, rfl⟩ := ht; simp only [WfR] at h; exact ⟨lang_plus _, h, (fun _ e => nomatch e), by omega⟩
  | quest r' => simp only [timesOf, Option.some.injEq, Prod.mk.injEq] at ht; obtain ⟨rfl, rfl, rfl⟩ := ht; simp only [WfR] at h; exact ⟨lang_quest _, h, (fun m e => by injection e with e; omega), by omega⟩
  | rep mn mx r' =>
    simp only [timesOf, Option.some.injEq, Prod.mk.injEq] at ht; obtain ⟨rfl, rfl, rfl⟩ := ht; simp only [WfR] at h
    refine ⟨fun w => ?_, h.2.2, fun m hm => ⟨(h.2.1 m hm).2, (h.2.1 m hm).1⟩, h.1⟩
    cases mx with
    | none => exact lang_rep0 mn r' w
    | some mx => exact lang_rep1 mn mx (h.2.1 mx rfl).2 r' w
  | emp => simp [timesOf] at ht
  | lit rs => simp [timesOf] at ht
  | cls l => simp [timesOf] at ht
  | any => simp [timesOf] at ht
  | anyNl => simp [timesOf] at ht
  | cat l => simp [timesOf] at ht
  | alt l => simp [timesOf] at ht
  | cap r => simp [timesOf] at ht

theorem class_some {l : List (Nat × Nat)} (h1 : 1 ≤ l.length) (h : ∀ q, q ∈ l → okRange q.1 q.2) : ∃ w, ClassW l w := by
  obtain ⟨q, hq⟩ : ∃ q, q ∈ l := by
    cases l with
    | nil => simp at h1
    | cons q l => exact ⟨q, by simp⟩
  have := h q hq
  exact ⟨enc q.1, q, hq, q.1, this.1, Nat.le_refl _, this.2.2, rfl⟩
theorem rep_some {L : Words} (h : ∃ w, L w) {lo : Nat} {hi : Option Nat} (hlh : ∀ m, hi = some m → lo ≤ m) : ∃ w, RepW L lo hi w := by
  obtain ⟨w, hw⟩ := pow_some h lo
  exact ⟨w, lo, Nat.le_refl _, hlh, hw⟩
/-- Each right expression has some word. -/
theorem lang_some (r : RE) : WfR r → ∃ w, Lang r w := by
  have rp : ∀ q r lo hi, timesOf q = some (r, lo, hi) → (WfR r → ∃ w, Lang r w) → WfR q → ∃ w, Lang q w := fun q r lo hi ht ih h => by
    obtain ⟨h1, h2, h3, h4⟩ := lang_times h ht
    obtain ⟨w, hw⟩ := rep_some (ih h2) (lo := lo) (hi := hi) (fun m hm => (h3 m hm).1)
    exact ⟨w, (h1 w).2 hw⟩
  refine RE.ind (P := fun r => WfR r → ∃ w, Lang r w) ?_ ?_ ?_ ?_ ?_ ?_ ?_ ?_ ?_ ?_ ?_ ?_ r
  · intro _; exact ⟨[], by simp only [Lang]; rfl⟩
  · intro rs _; exact ⟨rs.flatMap enc, by simp only [Lang]⟩
  · intro l h; simp only [WfR, Lang] at *; exact class_some h.1 h.2.2
  · intro _; simp only [Lang]; exact class_some (by simp) (by simp [okRange, okRune])
  · intro _; simp only [Lang]; exact class_some (by simp) (by simp [okRange, okRune])
  · intro l ih h
    simp only [WfR, Lang, langs_eq] at *
    have hl := WfL_mem h.2
    clear h
    induction l with
    | nil => exact ⟨[], rfl⟩
    | cons a l ih2 =>
      obtain ⟨u, hu⟩ := ih a (by simp) (hl a (by simp))
      obtain ⟨v, hv⟩ := ih2 (fun r hr => ih r (by simp [hr])) (fun r hr => hl r (by simp [hr]))
      exact ⟨u ++ v, u, v, rfl, hu, hv⟩
  · intro l ih h
    simp only [WfR, Lang, langs_eq] at *
    cases l with
    | nil => simp at h
    | cons a l =>
      obtain ⟨u, hu⟩ := ih a (by simp) (WfL_mem h.2.2 a (by simp))
      exact ⟨u, Lang a, by simp, hu⟩
  · intro r ih; exact rp _ r 0 none rfl ih
  · intro r ih; exact rp _ r 1 none rfl ih
  · intro r ih; exact rp _ r 0 (some 1) rfl ih
  · intro mn mx r ih; exact rp _ r mn mx rfl ih
  · intro r ih h; simp only [WfR, Lang] at *; exact ih h
theorem cat_some {l : List RE} (h : ∀ r, r ∈ l → WfR r) : ∃ w, CatW (l.map Lang) w := by
  induction l with
  | nil => exact ⟨[], rfl⟩
  | cons a l ih =>
    obtain ⟨u, hu⟩ := lang_some a (h a (by simp))
    obtain ⟨v, hv⟩ := ih (fun r hr => h r (by simp [hr]))
    exact ⟨u ++ v, u, v, rfl, hu, hv⟩
theorem cat_snoc (l : List RE) (a : RE) (w : List Nat) : CatW ((l ++ [a]).map Lang) w ↔ Seq_ (CatW (l.map Lang)) (Lang a) w := by
  induction l generalizing w with
  | nil =>
    constructor
    · rintro ⟨u, v, rfl, hu, hv⟩
      have hv : v = [] := hv
      exact ⟨[], u, by rw [hv]; simp, rfl, hu⟩
    · rintro ⟨u, v, rfl, hu, hv⟩
      have hu : u = [] := hu
      exact ⟨v, [], by rw [hu]; simp, hv, rfl⟩
  | cons b l ih =>
    constructor
    · rintro ⟨u, v, rfl, hu, hv⟩
      obtain ⟨x, y, rfl, hx, hy⟩ := (ih v).1 hv
      exact ⟨u ++ x, y, (List.append_assoc _ _ _).symm, ⟨u, x, rfl, hu, hx⟩, hy⟩
    · rintro ⟨u, v, rfl, ⟨x, y, rfl, hx, hy⟩, hv⟩
      exact ⟨x, y ++ v, List.append_assoc _ _ _, hx, (ih _).2 ⟨y, v, rfl, hy, hv⟩⟩
theorem cat_split (l m : List RE) (w : List Nat) : CatW ((l ++ m).map Lang) w ↔ Seq_ (CatW (l.map Lang)) (CatW (m.map Lang)) w := by
  induction l generalizing w with
  | nil =>
    constructor
    · intro h; exact ⟨[], w, rfl, rfl, h⟩
    · rintro ⟨u, v, rfl, hu, hv⟩
      have hu : u = [] := hu
      rw [hu]; exact hv
  | cons b l ih =>
    constructor
    · rintro ⟨u, v, rfl, hu, hv⟩
      obtain ⟨x, y, rfl, hx, hy⟩ := (ih v).1 hv
      exact ⟨u ++ x, y, (List.append_assoc _ _ _).symm, ⟨u, x, rfl, hu, hx⟩, hy⟩
    · rintro ⟨u, v, rfl, ⟨x, y, rfl, hx, hy⟩, hv⟩
      exact ⟨x, y ++ v, List.append_assoc _ _ _, hx, (ih _).2 ⟨y, v, rfl, hy, hv⟩⟩
/-- A beginning of a chain stands in one of its parts, or the chain is empty. -/
theorem begs_cat {bs : List Nat} : ∀ (l : List RE) (S : Nat → Prop), (∀ r, r ∈ l → WfR r) → ¬ S bs.length → (Begs (CatW (l.map Lang)) bs S ↔ ∃ k r, l[k]? = some r ∧ Begs (Lang r) bs (Ends (CatW ((l.take k).map Lang)) bs S))
  | [], S, _, hS => ⟨fun h => absurd (begs_one.1 h) hS, fun ⟨k, r, h, _⟩ => by simp at h⟩
  | a :: l, S, hl, hS => by
    have hs := cat_some (l := l) (fun r hr => hl r (by simp [hr]))
    have e0 : Begs (Lang a) bs (Ends One_ bs S) ↔ Begs (Lang a) bs S := begs_mono (fun _ => Iff.rfl) (fun i hi => by rw [ends_one]; exact ⟨fun h => h.2, fun h => ⟨hi, h⟩⟩)
    have key := begs_seq (L := Lang a) (M := CatW (l.map Lang)) (bs := bs) (S := S) hs
    constructor
    · intro h
      rcases key.1 h with h | h
      · exact ⟨0, a, rfl, e0.2 h⟩
      · by_cases hn : Ends (Lang a) bs S bs.length
        · obtain ⟨hj, i, h1, h2, h3⟩ := hn
          refine ⟨0, a, rfl, e0.2 ⟨i, h1, h2, [], ?_⟩⟩
          have : cutB bs i bs.length = bs.drop i := by unfold cutB; rw [List.take_of_length_le (by rw [List.length_drop]; exact Nat.le_refl _)]
          rw [this] at h3
          simpa using h3
        · obtain ⟨k, r, hk, h⟩ := (begs_cat l _ (fun r hr => hl r (by simp [hr])) hn).1 h
          exact ⟨k + 1, r, by simpa using hk, (begs_mono (fun _ => Iff.rfl) (fun i hi => (ends_seq i).symm)).1 h⟩
    · rintro ⟨k, r, hk, h⟩
      refine key.2 ?_
      cases k with
      | zero => simp at hk; subst hk; exact .inl (e0.1 h)
      | succ k =>
        right
        have h' : Begs (Lang r) bs (Ends (CatW ((l.take k).map Lang)) bs (Ends (Lang a) bs S)) := (begs_mono (fun _ => Iff.rfl) (fun i hi => ends_seq i)).1 h
        have hm : r ∈ l := List.mem_of_getElem? (by simpa using hk)
        have hd : l = l.take k ++ (r :: l.drop (k + 1)) := by
          have hk' : k < l.length := (List.getElem?_eq_some_iff.1 (show l[k]? = some r by simpa using hk)).1
          have e : l[k] = r := (List.getElem?_eq_some_iff.1 (show l[k]? = some r by simpa using hk)).2
          rw [← e, ← List.drop_eq_getElem_cons hk', List.take_append_drop]
        rw [hd]
        refine (begs_mono (fun w => cat_split _ _ w) (fun _ _ => Iff.rfl)).2 ?_
        refine (begs_seq (cat_some (l := r :: l.drop (k + 1)) (fun q hq => hl q (List.mem_cons_of_mem _ (by rw [hd]; exact List.mem_append_right _ hq))))).2 (.inr ?_)
        exact (begs_seq (L := Lang r) (cat_some (l := l.drop (k + 1)) (fun q hq => hl q (List.mem_cons_of_mem _ (List.mem_of_mem_drop hq))))).2 (.inl h')
end Go.Proofs.YtjeklnbfpehbeaaDoor

/- The walk of 'Reached' of the law's own side at the simple kinds of expressions. Condition: the expression is right, the text at most 40 bytes. -/
namespace Go.Proofs.YtjeklnbfpehbeaaDoor
open Go.RowKit

def On (A : List Bool) : Nat → Prop := fun i => A[i]? = some true
/-- What 'Reached' answers. -/
def RchPost (w : World) (r : RE) (bs : List Nat) (A : List Bool) (e : Ending) (w' : World) : Prop :=
  ∃ g c B, e = .returned (.slice (some ⟨g, 0, none⟩) B.length c) ∧ NewSet w' w.heap.size g c B ∧ B.length = A.length ∧ (∀ j, On B j ↔ Ends (Lang r) bs (On A) j) ∧ Fr (fun _ => False) w w'
def RC (r : RE) : Prop := ∀ (w : World) (v fv : Value) (t : ByteArray) (A : List Bool), ReAt w r v → SetAt w fv A → A.length = t.size + 1 → t.size ≤ 40 → Calls Tryd.prog 22 #[v, .string t, fv] w (RchPost w r (bytesOf t) A)

theorem on_le {A : List Bool} {n j : Nat} (hl : A.length = n + 1) (h : On A j) : j ≤ n := by
  have := (List.getElem?_eq_some_iff.1 h).1
  omega
theorem NewSet.base {w : World} {b b' g c : Nat} {L : List Bool} (h : NewSet w b g c L) (hb : b' ≤ b) : NewSet w b' g c L := ⟨h.blk, Nat.le_trans hb h.ge, h.le⟩
theorem run_mk_bool (n : Nat) (hn : n ≤ 1000000) (X : World) : (Instr.makeSlice 30 (.int .i64 (n : Int)) (.int .i64 (n : Int))).run Tryd.prog X = .ok (.slice (some ⟨X.heap.size, 0, none⟩) n n) (X.alloc (.cells ((List.replicate n false).map Value.bool).toArray 4)) := by
  have h := run_mk 30 4 (.bool false) 1 Tryd.underlying30 (by kernel_rfl) rfl .i64 .i64 n n (Nat.le_refl _) (by omega) (by omega) X
  rw [h]; simp
theorem newset_of {w : World} {g n : Nat} {L : List Bool} (h : Blk w g (L.map Value.bool) 4) (hn : n = L.length) : NewSet w g g n L :=
  ⟨⟨_, h, fun i x hi => by rw [List.getElem?_map, hi]; rfl⟩, Nat.le_refl _, by omega⟩
theorem bytes_app (a b : ByteArray) : bytesOf (a ++ b) = bytesOf a ++ bytesOf b := by
  unfold bytesOf
  rw [ByteArray.data_append]
  simp
theorem on_set {B : List Bool} {m : Nat} (hm : m < B.length) (j : Nat) : On (B.set m true) j ↔ On B j ∨ j = m := by
  unfold On
  by_cases e : m = j
  · subst e
    rw [List.getElem?_set_self hm]
    simp
  · rw [List.getElem?_set_ne e]
    exact ⟨.inl, fun h => h.resolve_right (fun h => e h.symm)⟩
theorem str_eq (a b : ByteArray) : (a.toList == b.toList) = decide (bytesOf a = bytesOf b) := by
  rw [Lib.toList_data, Lib.toList_data]
  by_cases h : bytesOf a = bytesOf b
  · rw [decide_eq_true h]
    have : a.data.toList = b.data.toList := by
      refine List.map_inj_right (f := UInt8.toNat) (fun x y hxy => ?_) |>.1 h
      exact UInt8.toNat_inj.1 hxy
    rw [this]; simp
  · rw [decide_eq_false h, beq_eq_false_iff_ne]
    intro e
    exact h (by unfold bytesOf; rw [e])
theorem cut_ext (t : ByteArray) (i j : Nat) : bytesOf (t.extract i j) = cutB (bytesOf t) i j := by
  rw [bytes_ext, List.drop_take]; rfl
section
variable {ops : Array Oper} {rest : List Oper} {o : Oper} {a : Act} {Q : Exit → Act → World → Prop}
/-- append([]bool{}, set...), the new block named. -/
theorem app_setb (W : World) (b : Nat) (hb : W.heap.size = b) (hgd : o.guard = none) (s x : Operand) (ho : o.op = .call { callee := .builtin .append, args := #[s, x], argTypes := #[30, 30] })
    (hs : a.eval s = .slice (some ⟨b, 0, none⟩) 0 0) (v : Value) (L : List Bool) (hx : a.eval x = v) (hv : SetAt W v L) (h0 : 0 < L.length) (hl : L.length ≤ 1000000)
    (h : ∀ g c w', NewSet w' W.heap.size g c L → Fr (fun _ => False) W w' → wpList Tryd.prog ops Q rest (a.put o.dst (.slice (some ⟨g, 0, none⟩) L.length c)) w') :
    wpList Tryd.prog ops Q (o :: rest) a (W.alloc (.cells #[] 4)) := by
  subst hb
  exact app_set W hgd s x ho hs v L hx hv h0 hl h
end

set_option maxRecDepth 100000 in
set_option maxHeartbeats 2000000 in
theorem rc_emp : RC .emp := by
  intro w v fv t A hv hA hl ht
  obtain ⟨uA, un, uc, um, ux, vA, vn, vc, rfl⟩ := hv.form
  have hA0 := hA
  obtain ⟨b1, o1, c1, cs1, rfl, hcA, hbA, hcellA⟩ := hA0
  rw [hl] at hA ⊢
  have HA := Lib.hid (And.intro hA (And.intro hbA (And.intro hcellA hl)))
  have hmk : ∀ X : World, (Instr.makeSlice 30 (.int .i64 ((t.size : Int) + 1)) (.int .i64 ((t.size : Int) + 1))).run Tryd.prog X = .ok (.slice (some ⟨X.heap.size, 0, none⟩) (t.size + 1) (t.size + 1)) (X.alloc (.cells ((List.replicate (t.size + 1) false).map Value.bool).toArray 4)) := fun X => run_mk_bool (t.size + 1) (by omega) X
  generalize hC : ((List.replicate (t.size + 1) false).map Value.bool).toArray = C at hmk
  have HC := Lib.hid hC
  clear hC hA hbA hcellA hcA hl
  clear hv
  simp only [opOf]
  have hF2 : Fr (fun _ => False) w ((w.alloc (.cells #[.int .i64 2, .slice uA un uc, .int .i64 um, .int .i64 ux, .bool false, .bool false, .slice vA vn vc] 25)).alloc (.cells C 4)) := ((Fr.refl _ w).alloc _).alloc _
  have hB0 : Blk ((w.alloc (.cells #[.int .i64 2, .slice uA un uc, .int .i64 um, .int .i64 ux, .bool false, .bool false, .slice vA vn vc] 25)).alloc (.cells C 4)) w.heap.size [.int .i64 2, .slice uA un uc, .int .i64 um, .int .i64 ux, .bool false, .bool false, .slice vA vn vc] 25 := (Blk.new w [_, _, _, _, _, _, _] 25).alloc _
  have hO : NewSet ((w.alloc (.cells #[.int .i64 2, .slice uA un uc, .int .i64 um, .int .i64 ux, .bool false, .bool false, .slice vA vn vc] 25)).alloc (.cells C 4)) w.heap.size (w.heap.size + 1) (t.size + 1) (List.replicate (t.size + 1) false) := (newset_of (by
    have h := Blk.newAt (w.alloc (.cells (#[.int .i64 2, .slice uA un uc, .int .i64 um, .int .i64 ux, .bool false, .bool false, .slice vA vn vc]) 25)) ((List.replicate (t.size + 1) false).map Value.bool) 4 (w.heap.size + 1) (by simp)
    rw [HC.out] at h
    exact h) (by simp)).base (by omega)
  have hA2 : SetAt ((w.alloc (.cells #[.int .i64 2, .slice uA un uc, .int .i64 um, .int .i64 ux, .bool false, .bool false, .slice vA vn vc] 25)).alloc (.cells C 4)) (.slice (some ⟨b1, o1, none⟩) (t.size + 1) c1) A := HA.out.1.fr hF2 (fun _ _ _ h => h)
  have hsz : (((w.alloc (.cells #[.int .i64 2, .slice uA un uc, .int .i64 um, .int .i64 ux, .bool false, .bool false, .slice vA vn vc] 25)).alloc (.cells C 4))).heap.size = w.heap.size + 1 + 1 := by simp
  have HI := Lib.hid (And.intro hF2 (And.intro hA2 hsz))
  clear hF2 hB0 hA2 hsz hO
  go_enter Tryd.func22, Tryd.ntmps22
  go_wp2_with (at_builtin; ((refine app_setb _ (w.heap.size + 1 + 1) HI.out.2.2 rfl _ _ rfl rfl (.slice (some ⟨b1, o1, none⟩) (t.size + 1) c1) A rfl HI.out.2.1 (by rw [HA.out.2.2.2]; omega) (by rw [HA.out.2.2.2]; omega) ?_); intro g c w1 hs1 hF1; rw [HA.out.2.2.2]))
  go_ret
  refine ⟨g, c, A, by rw [HA.out.2.2.2]; rfl, hs1.base HI.out.1.size, rfl, fun j => ?_, HI.out.1.trans hF1 (fun _ _ h => h)⟩
  simp only [Lang]
  rw [ends_one]
  exact ⟨fun h => ⟨by rw [bytes_len]; exact on_le (n := t.size) HA.out.2.2.2 h, h⟩, fun h => h.2⟩

theorem lit_take {rs : List Nat} {k r : Nat} (h : rs[k]? = some r) : (rs.take (k + 1)).flatMap enc = (rs.take k).flatMap enc ++ enc r := by
  rw [take_snoc_getElem? h]
  simp
theorem flat_len4 (l : List Nat) : (l.flatMap enc).length ≤ 4 * l.length := by
  induction l with
  | nil => simp
  | cons a l ih =>
    have := enc_len_le a
    simp only [List.flatMap_cons, List.length_append, List.length_cons]
    omega
theorem strB_enc {r : Nat} (h : okRune r) : bytesOf (strB (enc r)) = enc r := strB_bytes _ (fun x hx => enc_byte h x hx)

set_option maxRecDepth 100000 in
set_option maxHeartbeats 4000000 in
theorem rc_lit (rs : List Nat) (hwf : WfR (.lit rs)) : RC (.lit rs) := by
  intro w v fv t A hv hA hl ht
  simp only [WfR] at hwf
  obtain @⟨_, vA, vc, rv, um, ux, xs, hru, hr0, hm, hx, hs⟩ := hv
  obtain ⟨uA, uc, hrv, -⟩ := id hru
  obtain ⟨un, hun⟩ : ∃ M, Hid (M = rs.length) := ⟨_, Lib.hid rfl⟩
  simp only [runesOf] at hru hrv
  rw [← hun.out] at hrv
  subst hrv
  have hun4 : un ≤ 1000 := by have := hun.out; have := hwf.1; omega
  have HH := Lib.hid (And.intro hru hwf.2)
  clear hru hr0 hm hx hs hwf
  have hA0 := hA
  obtain ⟨b1, o1, c1, cs1, rfl, hcA, hbA, hcellA⟩ := hA0
  rw [hl] at hA ⊢
  have HA := Lib.hid (And.intro hA (And.intro hbA (And.intro hcellA hl)))
  have hmk : ∀ X : World, (Instr.makeSlice 30 (.int .i64 ((t.size : Int) + 1)) (.int .i64 ((t.size : Int) + 1))).run Tryd.prog X = .ok (.slice (some ⟨X.heap.size, 0, none⟩) (t.size + 1) (t.size + 1)) (X.alloc (.cells ((List.replicate (t.size + 1) false).map Value.bool).toArray 4)) := fun X => run_mk_bool (t.size + 1) (by omega) X
  generalize hC : ((List.replicate (t.size + 1) false).map Value.bool).toArray = C at hmk
  have HC := Lib.hid hC
  clear hC hA hbA hcellA hcA hl
  simp only [opOf, subsOf, List.length_nil]
  obtain ⟨vn, hvn⟩ : ∃ z, Hid (z = 0) := ⟨0, Lib.hid rfl⟩
  rw [← hvn.out]
  have hF2 : Fr (fun _ => False) w ((w.alloc (.cells #[.int .i64 3, .slice uA un uc, .int .i64 um, .int .i64 ux, .bool false, .bool false, .slice vA vn vc] 25)).alloc (.cells C 4)) := ((Fr.refl _ w).alloc _).alloc _
  have hB0 : Blk ((w.alloc (.cells #[.int .i64 3, .slice uA un uc, .int .i64 um, .int .i64 ux, .bool false, .bool false, .slice vA vn vc] 25)).alloc (.cells C 4)) w.heap.size [.int .i64 3, .slice uA un uc, .int .i64 um, .int .i64 ux, .bool false, .bool false, .slice vA vn vc] 25 := (Blk.new w [_, _, _, _, _, _, _] 25).alloc _
  have hO : NewSet ((w.alloc (.cells #[.int .i64 3, .slice uA un uc, .int .i64 um, .int .i64 ux, .bool false, .bool false, .slice vA vn vc] 25)).alloc (.cells C 4)) w.heap.size (w.heap.size + 1) (t.size + 1) (List.replicate (t.size + 1) false) := (newset_of (by
    have h := Blk.newAt (w.alloc (.cells (#[.int .i64 3, .slice uA un uc, .int .i64 um, .int .i64 ux, .bool false, .bool false, .slice vA vn vc]) 25)) ((List.replicate (t.size + 1) false).map Value.bool) 4 (w.heap.size + 1) (by simp)
    rw [HC.out] at h
    exact h) (by simp)).base (by omega)
  have hA2 : SetAt ((w.alloc (.cells #[.int .i64 3, .slice uA un uc, .int .i64 um, .int .i64 ux, .bool false, .bool false, .slice vA vn vc] 25)).alloc (.cells C 4)) (.slice (some ⟨b1, o1, none⟩) (t.size + 1) c1) A := HA.out.1.fr hF2 (fun _ _ _ h => h)
  have hsz : (((w.alloc (.cells #[.int .i64 3, .slice uA un uc, .int .i64 um, .int .i64 ux, .bool false, .bool false, .slice vA vn vc] 25)).alloc (.cells C 4))).heap.size = w.heap.size + 1 + 1 := by simp
  have HI := Lib.hid (And.intro hA2 (And.intro hO (And.intro hF2 hsz)))
  clear hF2 hA2 hsz hO
  go_enter Tryd.func22, Tryd.ntmps22
  go_wp2_with fail
  generalize ((w.alloc (.cells #[.int .i64 3, .slice uA un uc, .int .i64 um, .int .i64 ux, .bool false, .bool false, .slice vA vn vc] 25)).alloc (.cells C 4)) = W2 at *
  go_loopg [8, 9] (un + 1) (fun g s i wr => ∃ (k : Nat) (S : ByteArray), k ≤ un ∧ g = un - k + 1 ∧ i = .int .i64 (k : Int) ∧ s = .string S ∧ Hid (bytesOf S = (rs.take k).flatMap enc) ∧ Fr (fun _ => False) W2 wr)
  case atStart => exact ⟨0, ⟨#[]⟩, by omega, by omega, rfl, rfl, Lib.hid (by simp [bytesOf]), Fr.refl _ W2⟩
  case round =>
    obtain ⟨k, S, hk, rfl, rfl, rfl, hS, hF⟩ := hrel
    have y1 := (hB0.fr hF (fun h => h)).cell 1 rfl
    have hHF := Lib.hid hF
    clear hF
    by_cases hlt : k < un
    · have e1 : (k : Int) < (un : Int) := by omega
      obtain ⟨r, hr⟩ : ∃ r, rs[k]? = some r := ⟨_, List.getElem?_eq_getElem (by rw [← hun.out]; exact hlt)⟩
      obtain ⟨b, o, c', e3, r0⟩ := HH.out.1.get hr
      simp at e3
      obtain ⟨rfl, -, rfl⟩ := e3
      have r1 := (HI.out.2.2.1.trans hHF.out (fun _ _ h => h)).cell r0 (fun h => h)
      have hE := enc_spec wr (HH.out.2 r (List.mem_of_getElem? hr))
      have hX := Lib.hid hr
      clear r0 hr
      obtain ⟨X, hXX⟩ : ∃ X, Hid (X = strB (enc r)) := ⟨_, Lib.hid rfl⟩
      rw [← hXX.out] at hE
      have hSs : S.size ≤ 4000 := by
        rw [← bytes_len, hS.out]
        have h1 := flat_len4 (rs.take k)
        have h2 : (rs.take k).length ≤ k := by rw [List.length_take]; omega
        omega
      have hXs : X.size ≤ 4 := by rw [hXX.out, strB_size]; exact enc_len_le r
      go_wp2_with fail
      refine hE.mono ?_
      rintro e w1 ⟨rfl, hf⟩
      clear hE y1 r1
      go_wp2_with fail
      go_roundg (un - (k + 1) + 1)
      case measure => omega
      case rel => exact ⟨k + 1, S ++ X, by omega, rfl, by simp, rfl, Lib.hid (by rw [bytes_app, hS.out, lit_take hX.out, hXX.out, strB_enc (HH.out.2 r (List.mem_of_getElem? hX.out))]), hHF.out.trans hf (fun _ _ h => h)⟩
    · obtain rfl : k = un := by omega
      have e1 : ¬ ((k : Int) < (k : Int)) := by omega
      have hSb : bytesOf S = rs.flatMap enc := by rw [hS.out, List.take_of_length_le (by rw [← hun.out]; exact Nat.le_refl _)]
      have hSl : S.size ≤ 4000 := by rw [← bytes_len, hSb]; have := flat_len4 rs; have := hun.out; omega
      have HS := Lib.hid hSb
      clear hSb hS
      go_wp2_with fail
      clear y1
      go_loopg [10] (t.size + 2) (fun g i wr => ∃ (k : Nat) (B : List Bool), k ≤ t.size + 1 ∧ g = t.size + 1 - k + 1 ∧ i = .int .i64 (k : Int) ∧ NewSet wr w.heap.size (w.heap.size + 1) (t.size + 1) B ∧ Hid (B.length = t.size + 1 ∧ ∀ j, On B j ↔ ∃ i, i < k ∧ i + S.size = j ∧ On A i ∧ cutB (bytesOf t) i j = rs.flatMap enc) ∧ Fr (fun k => k = w.heap.size + 1) W2 wr)
      case atStart => exact ⟨0, _, by omega, by omega, rfl, HI.out.2.1.fr hHF.out (fun h => h), Lib.hid ⟨by simp, fun j => ⟨fun h => by simp [On, List.getElem?_replicate] at h, fun ⟨i, h, _⟩ => by omega⟩⟩, hHF.out.mono (fun _ _ h => h.elim)⟩
      case round =>
        obtain ⟨q, B, hq, rfl, rfl, hB, hBp, hF⟩ := hrel
        by_cases hlt : q + S.size ≤ t.size
        · have e2 : (q : Int) + (S.size : Int) ≤ (t.size : Int) := by omega
          have hql : q < t.size + 1 := by omega
          obtain ⟨x, hx⟩ : ∃ x, A[q]? = some x := ⟨_, List.getElem?_eq_getElem (by rw [HA.out.2.2.2]; omega)⟩
          have hne : b1 ≠ w.heap.size + 1 := by have := HA.out.2.1.lt; omega
          have r0 := hF.cell (HI.out.2.2.1.cell (HA.out.2.2.1 q x hx) (fun h => h)) hne
          have HX := Lib.hid (And.intro hx (And.intro hB hF))
          clear hx hB hF
          have stay : Hid ((¬ (On A q ∧ cutB (bytesOf t) q (q + S.size) = rs.flatMap enc)) → B.length = t.size + 1 ∧ ∀ j, On B j ↔ ∃ i, i < q + 1 ∧ i + S.size = j ∧ On A i ∧ cutB (bytesOf t) i j = rs.flatMap enc) := Lib.hid (fun hno => ⟨hBp.out.1, fun j => (hBp.out.2 j).trans ⟨fun ⟨i, h1, h2⟩ => ⟨i, by omega, h2⟩, fun ⟨i, h1, h2, h3, h4⟩ => by
            by_cases e : i = q
            · subst e; subst h2; exact absurd ⟨h3, h4⟩ hno
            · exact ⟨i, by omega, h2, h3, h4⟩⟩⟩)
          cases x with
          | false =>
            go_wp2_with fail
            go_roundg (t.size + 1 - (q + 1) + 1)
            case measure => omega
            case rel => exact ⟨q + 1, B, by omega, rfl, by simp, HX.out.2.1, Lib.hid (stay.out (fun h => by have h1 := h.1; have h2 := HX.out.1; unfold On at h1; rw [h2] at h1; simp at h1)), HX.out.2.2⟩
          | true =>
            by_cases hc : cutB (bytesOf t) q (q + S.size) = rs.flatMap enc
            · have hcc : ((t.extract q (q + S.size)).toList == S.toList) = true := by rw [str_eq, cut_ext, HS.out]; exact decide_eq_true hc
              obtain ⟨cs, hcs, hcv⟩ := HX.out.2.1.blk
              obtain ⟨y, hy⟩ : ∃ y, B[q + S.size]? = some y := ⟨_, List.getElem?_eq_getElem (by rw [hBp.out.1]; omega)⟩
              have z1 := hcs.cell (q + S.size) (hcv _ y hy)
              have z2 := hcs.frz (q + S.size)
              have hput := HX.out.2.1.put (q + S.size) true
              have hFp : Fr (fun k => k = w.heap.size + 1) W2 (wr.setCell ⟨w.heap.size + 1, q + S.size, none⟩ (.bool true)) := Fr.setCell (p := ⟨w.heap.size + 1, q + S.size, none⟩) HX.out.2.2 (fun _ => rfl) _
              have HP := Lib.hid (And.intro hput hFp)
              have hHc := Lib.hid hc
              clear hc hcs hcv hy hput hFp
              go_wp2_with fail
              go_roundg (t.size + 1 - (q + 1) + 1)
              case measure => omega
              case rel =>
                refine ⟨q + 1, B.set (q + S.size) true, by omega, rfl, by simp, HP.out.1, Lib.hid ⟨by rw [List.length_set]; exact hBp.out.1, fun j => ?_⟩, HP.out.2⟩
                rw [on_set (by rw [hBp.out.1]; omega), hBp.out.2 j]
                constructor
                · rintro (⟨i, h1, h2⟩ | rfl)
                  · exact ⟨i, by omega, h2⟩
                  · exact ⟨q, by omega, rfl, HX.out.1, hHc.out⟩
                · rintro ⟨i, h1, h2, h3, h4⟩
                  by_cases e : i = q
                  · subst e; exact .inr h2.symm
                  · exact .inl ⟨i, by omega, h2, h3, h4⟩
            · have hcc : ((t.extract q (q + S.size)).toList == S.toList) = false := by rw [str_eq, cut_ext, HS.out]; exact decide_eq_false hc
              have hHc := Lib.hid hc
              clear hc
              go_wp2_with fail
              go_roundg (t.size + 1 - (q + 1) + 1)
              case measure => omega
              case rel => exact ⟨q + 1, B, by omega, rfl, by simp, HX.out.2.1, Lib.hid (stay.out (fun h => hHc.out h.2)), HX.out.2.2⟩
        · have e2 : ¬ ((q : Int) + (S.size : Int) ≤ (t.size : Int)) := by omega
          have HX := Lib.hid (And.intro hB hF)
          clear hB hF
          go_wp2_with fail
          go_ret
          refine ⟨w.heap.size + 1, t.size + 1, B, by rw [hBp.out.1]; rfl, HX.out.1, by rw [hBp.out.1, HA.out.2.2.2], fun j => ?_, HI.out.2.2.1.trans HX.out.2 (fun k hk e => by omega)⟩
          rw [hBp.out.2 j]
          simp only [Lang]
          have hSz : S.size = (rs.flatMap enc).length := by rw [← bytes_len, HS.out]
          constructor
          · rintro ⟨i, h1, h2, h3, h4⟩
            have hj : j ≤ (bytesOf t).length := by
              rw [bytes_len]
              by_cases hj : j ≤ t.size
              · exact hj
              · exfalso
                have h5 := congrArg List.length h4
                unfold cutB at h5
                rw [List.length_take, List.length_drop, bytes_len] at h5
                omega
            exact ⟨hj, i, by omega, h3, h4⟩
          · rintro ⟨hj, i, h1, h3, h4⟩
            have h5 := congrArg List.length h4
            rw [cut_len hj] at h5
            rw [bytes_len] at hj
            exact ⟨i, by omega, by omega, h3, h4⟩
end Go.Proofs.YtjeklnbfpehbeaaDoor
