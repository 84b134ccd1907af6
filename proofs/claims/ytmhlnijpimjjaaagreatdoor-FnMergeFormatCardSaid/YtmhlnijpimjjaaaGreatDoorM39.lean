/- The reference goes through all states (f23). Condition: keys of at most 400 bytes, at most 65536 pairs. -/
import Derived.Test.YtmhlnijpimjjaaaGreatDoorM38
import Derived.Test.YtmhlnijpimjjaaaGreatDoorM29
import Derived.Test.YtmhlnijpimjjaaaGreatDoorM15
import Derived.Laws.IdiomStrings
set_option linter.unusedSimpArgs false
set_option linter.unusedVariables false
namespace Go.Proofs.YtmhlnijpimjjaaaGreatDoor
open Go.RowKit Fmt
theorem lit96 (t : Array Value) (h : t.size = 96) : ∃ f : Nat → Value, t = #[f 0, f 1, f 2, f 3, f 4, f 5, f 6, f 7, f 8, f 9, f 10, f 11, f 12, f 13, f 14, f 15, f 16, f 17, f 18, f 19, f 20, f 21, f 22, f 23, f 24, f 25, f 26, f 27, f 28, f 29, f 30, f 31, f 32, f 33, f 34, f 35, f 36, f 37, f 38, f 39, f 40, f 41, f 42, f 43, f 44, f 45, f 46, f 47, f 48, f 49, f 50, f 51, f 52, f 53, f 54, f 55, f 56, f 57, f 58, f 59, f 60, f 61, f 62, f 63, f 64, f 65, f 66, f 67, f 68, f 69, f 70, f 71, f 72, f 73, f 74, f 75, f 76, f 77, f 78, f 79, f 80, f 81, f 82, f 83, f 84, f 85, f 86, f 87, f 88, f 89, f 90, f 91, f 92, f 93, f 94, f 95] := by
 obtain ⟨f, hf⟩ := litM t h
 exact ⟨f, hf.trans rfl⟩
/-- The pairs behind a state. -/
def kown (Kt : Nat → Prs) (s : Nd) : Prs := (if s.fin = true then [([], s.fout)] else []) ++ s.arcs.flatMap fun t => pre t.1 t.2.1 (Kt t.2.2)
def WkPost (w : World) (base wb gd n cap gb : Nat) (SS : List (ByteArray × Nat)) (ts : ByteArray) (sum : Nat) (K : Prs) (e : Ending) (w' : World) : Prop := e = .returned (.tuple #[]) ∧ ∃ SS', prsOf SS' = outp (bytesOf ts) sum K ∧ WkAt w' base wb gd n cap gb (SS ++ SS') ∧ Fr (Wf base w) w w'
theorem wks_a {w w1 w2 : World} {s : Nd} {A1 : Option Addr} {cA fo N : Nat} {fi : Bool} {full : List Value} (hF0 : Fr (fun _ => False) w w1) (hfi : s.fin = fi) (hN : s.arcs.length = N) (hfo : s.fin = true → fo = s.fout) (hr : RowF w2 98 3 (.slice A1 s.arcs.length cA) s.arcs.length full) (hf : full.take (s.arcs.length * 3) = acells s.arcs) (hF : Fr (fun _ => False) w1 w2) :
  WkS w w2.heap.size s (.slice A1 N cA) fo (w2.alloc (.cells #[.bool fi, .int .u64 (fo : Int), .slice A1 N cA] 94)) ∧ Fr (fun _ => False) w (w2.alloc (.cells #[.bool fi, .int .u64 (fo : Int), .slice A1 N cA] 94)) := by
 subst hfi hN
 exact ⟨⟨Blk.new w2 _ 94, hfo, full, hr.fr ((Fr.refl (fun _ => False) w2).alloc _) (fun _ _ h => h), hf⟩, (hF0.trans hF (fun _ _ h => h)).alloc _⟩
theorem wks_b {w w1 w2 : World} {s : Nd} {A1 : Option Addr} {cA fo N : Nat} {fi : Bool} {full : List Value} (hb : Blk w1 w.heap.size [.bool false, .int .u64 0, .slice none 0 0] 94) (hF0 : Fr (fun _ => False) w w1) (hfi : s.fin = fi) (hN : s.arcs.length = N) (hfo : s.fin = true → fo = s.fout) (hr : RowF w2 98 3 (.slice A1 s.arcs.length cA) s.arcs.length full) (hf : full.take (s.arcs.length * 3) = acells s.arcs) (ho : ∀ b, (Value.slice A1 s.arcs.length cA).ownBlock = some b → w1.heap.size ≤ b) (hF : Fr (fun _ => False) w1 w2) :
  WkS w w.heap.size s (.slice A1 N cA) fo (((w2.setCell ⟨w.heap.size, 0, none⟩ (.bool fi)).setCell ⟨w.heap.size, 1, none⟩ (.int .u64 (fo : Int))).setCell ⟨w.heap.size, 2, none⟩ (.slice A1 N cA)) ∧ Fr (fun _ => False) w (((w2.setCell ⟨w.heap.size, 0, none⟩ (.bool fi)).setCell ⟨w.heap.size, 1, none⟩ (.int .u64 (fo : Int))).setCell ⟨w.heap.size, 2, none⟩ (.slice A1 N cA)) := by
 subst hfi hN
 have hlt := hb.lt
 have hS : Fr (fun k => k = w.heap.size) w2 (((w2.setCell ⟨w.heap.size, 0, none⟩ (.bool s.fin)).setCell ⟨w.heap.size, 1, none⟩ (.int .u64 (fo : Int))).setCell ⟨w.heap.size, 2, none⟩ (.slice A1 s.arcs.length cA)) :=
  Fr.setCell (F := fun k => k = w.heap.size) (p := ⟨w.heap.size, 2, none⟩) (Fr.setCell (F := fun k => k = w.heap.size) (p := ⟨w.heap.size, 1, none⟩) (Fr.setCell (F := fun k => k = w.heap.size) (p := ⟨w.heap.size, 0, none⟩) (Fr.refl _ w2) (fun _ => rfl) _) (fun _ => rfl) _) (fun _ => rfl) _
 exact ⟨⟨(((hb.fr hF (fun h => h)).set 0 _).set 1 _).set 2 _, hfo, full, hr.fr hS (fun b hb e => by have := ho b hb; omega), hf⟩, (hF0.trans hF (fun _ _ h => h)).trans hS (fun k hk e => by omega)⟩
def WkI (w : World) (base wb gd n cap gb : Nat) (SS : List (ByteArray × Nat)) (s : Nd) (A : Value) (fo b8 : Nat) (ts : ByteArray) (sum : Nat) (Kt : Nat → Prs) (N g : Nat) (ti : Value) (wx : World) : Prop :=
 ∃ (i : Nat) (S1 : List (ByteArray × Nat)), i ≤ N ∧ g = N - i ∧ ti = .int .i64 (i : Int) ∧ WkS w b8 s A fo wx ∧ WkAt wx base wb gd n cap gb (SS ++ S1) ∧ prsOf S1 = outp (bytesOf ts) sum ((if s.fin = true then [([], s.fout)] else []) ++ (s.arcs.take i).flatMap fun t => pre t.1 t.2.1 (Kt t.2.2)) ∧ Fr (Wf base w) w wx
set_option maxHeartbeats 2000000 in
set_option maxRecDepth 100000 in
theorem walk_step {base wb gd n cap gb a sum : Nat} {D : List Nat} {s : Nd} {Kt : Nat → Prs} {w : World} {ts : ByteArray} {SS : List (ByteArray × Nat)} (hv : View D a s) (hx : ∀ x, x ∈ s.arcs → x.1 < 256)
  (ih : ∀ x, x ∈ s.arcs → ∀ {w : World} {ts : ByteArray} {sum : Nat} {SS : List (ByteArray × Nat)}, (∀ q, q ∈ Kt x.2.2 → ts.size + q.1.length ≤ 400 ∧ sum + q.2 < 2 ^ 64) → SS.length + (Kt x.2.2).length ≤ 65536 → WkD w base gd n cap gb D → WkAt w base wb gd n cap gb SS → Calls Tryz.prog 23 #[.pointer (some ⟨wb, 0, none⟩), .int .i64 (x.2.2 : Int), .string ts, .int .u64 (sum : Int)] w (WkPost w base wb gd n cap gb SS ts sum (Kt x.2.2)))
  (hne : ∀ x, x ∈ s.arcs → Kt x.2.2 ≠ []) (hsl : s.arcs.length ≤ 65536) (hsz : ts.size ≤ 400) (hq : ∀ q, q ∈ kown Kt s → ts.size + q.1.length ≤ 400 ∧ sum + q.2 < 2 ^ 64) (hl : SS.length + (kown Kt s).length ≤ 65536) (hD : WkD w base gd n cap gb D) (hW : WkAt w base wb gd n cap gb SS) :
  Calls Tryz.prog 23 #[.pointer (some ⟨wb, 0, none⟩), .int .i64 (a : Int), .string ts, .int .u64 (sum : Int)] w (WkPost w base wb gd n cap gb SS ts sum (kown Kt s)) := by
 obtain ⟨v0, hb, hP⟩ := hW.ex
 have r0 := hb.cell 0 rfl
 have r1 := hb.cell 1 rfl
 have hrd : ∀ W, Fr (fun _ => False) w W → Calls Tryz.prog 41 #[.slice (some ⟨gd, 0, none⟩) n cap, .int .i64 (a : Int), .slice (some ⟨gb, 0, none⟩) 64 64] W fun e w' => RdPost W s e w' := fun W hW => rdstate_calls (hD.dat.fr hW (fun h => h)) hD.len (by have := hD.gdl; have := hD.bsz; have := hW.size; omega) hD.cap1 hD.cap2 (hD.bak.fr hW (fun h => h)) hv
 have HH := Lib.hid (And.intro hsz (And.intro hl (And.intro hD (And.intro hW (And.intro hq hx)))))
 have HI := Lib.hid @ih
 have HNE := Lib.hid hne
 have HSL := Lib.hid hsl
 have r0a : ∀ o, (w.alloc o).cell? ⟨wb, 0, none⟩ = some (.slice (some ⟨gd, 0, none⟩) n cap) := fun o => (hb.alloc o).cell 0 rfl
 have r1a : ∀ o, (w.alloc o).cell? ⟨wb, 1, none⟩ = some (.slice (some ⟨gb, 0, none⟩) 64 64) := fun o => (hb.alloc o).cell 1 rfl
 have hb8 : Blk (w.alloc (.cells #[.bool false, .int .u64 0, .slice none 0 0] 94)) w.heap.size [.bool false, .int .u64 0, .slice none 0 0] 94 := Blk.new w _ 94
 have H8 := Lib.hid hb8
 clear hv hsz hl hD hW hb hP hb8 hq ih hx hne hsl
 go_enter Tryz.func23, Tryz.ntmps23
 go_wp2_with fail
 rename_i K1 hK1
 have hgo : ∀ (a : Act) (X : World) (b8 fo : Nat) (A : Value), a.defers = [] → a.tmps.size = 96 → a.tmps[0]? = some (.pointer (some ⟨wb, 0, none⟩)) → a.tmps[2]? = some (.string ts) → a.tmps[3]? = some (.int .u64 (sum : Int)) → a.tmps[8]? = some (.pointer (some ⟨b8, 0, none⟩)) → a.tmps[9]? = some (.bool true) → WkS w b8 s A fo X → Fr (fun _ => False) w X → K1 a X := by
  rintro ⟨tm, df⟩ X b8 fo A hd hsz h0 h2 h3 h8 h9 hs hF
  clear hrd r0 r1 r0a r1a H8
  simp only at hd hsz h0 h2 h3 h8 h9
  subst hd
  obtain ⟨f, rfl⟩ := lit96 tm hsz
  have h0' : f 0 = .pointer (some ⟨wb, 0, none⟩) := Option.some.inj h0
  have h2' : f 2 = .string ts := Option.some.inj h2
  have h3' : f 3 = .int .u64 (sum : Int) := Option.some.inj h3
  have h8' : f 8 = .pointer (some ⟨b8, 0, none⟩) := Option.some.inj h8
  have h9' : f 9 = .bool true := Option.some.inj h9
  rw [h0', h2', h3', h8', h9']
  clear h0 h2 h3 h8 h9 h0' h2' h3' h8' h9' hsz
  obtain ⟨v1, hb1, hP1⟩ := (HH.out.2.2.2.1.fr0 hF).ex
  obtain ⟨full, hRow, htk, hbs⟩ := hP1.ex
  obtain ⟨Av, cv, rfl⟩ := rowv hRow
  have r2 := hb1.cell 2 rfl
  have r3 := hb1.cell 3 rfl
  have z2 := hb1.frz 2
  have rf := hs.blk.cell 0 rfl
  have rg := hs.blk.cell 1 rfl
  have d1 : ¬ (400 : Int) < (ts.size : Int) := by have := HH.out.1; omega
  obtain ⟨m, hm⟩ : ∃ m, Hid (SS.length = m) := ⟨_, Lib.hid rfl⟩
  rw [hm.out] at r2 hRow
  have d2 : ¬ (65536 : Int) < (m : Int) := by have := HH.out.2.1; have := hm.out; omega
  have HX := Lib.hid (And.intro hs (And.intro hF (And.intro hb1 (And.intro htk (And.intro hbs hRow)))))
  clear hs hF hb1 hP1 htk hbs
  apply hK1
  clear hK1
  obtain ⟨fi, hfi⟩ : ∃ v, Hid (s.fin = v) := ⟨_, Lib.hid rfl⟩
  rw [hfi.out] at rf
  go_upto_region 4 with fail
  rename_i K3 hK3 K4 hK4
  have hgo3 : ∀ (a : Act) (Y : World) (S0 : List (ByteArray × Nat)), a.defers = [] → a.tmps.size = 96 → a.tmps[0]? = some (.pointer (some ⟨wb, 0, none⟩)) → a.tmps[2]? = some (.string ts) → a.tmps[3]? = some (.int .u64 (sum : Int)) → a.tmps[8]? = some (.pointer (some ⟨b8, 0, none⟩)) → WkS w b8 s A fo Y → WkAt Y base wb gd n cap gb (SS ++ S0) → prsOf S0 = outp (bytesOf ts) sum (if s.fin = true then [([], s.fout)] else []) → Fr (Wf base w) w Y → K3 a Y := by
   rintro ⟨tm, df⟩ Y S0 hd hsz h0 h2 h3 h8 hs hW hS0 hF
   clear hK4 K4 HX r2 r3 z2 rf rg hRow
   simp only at hd hsz h0 h2 h3 h8
   subst hd
   obtain ⟨f3, rfl⟩ := lit96 tm hsz
   have h0' : f3 0 = .pointer (some ⟨wb, 0, none⟩) := Option.some.inj h0
   have h2' : f3 2 = .string ts := Option.some.inj h2
   have h3' : f3 3 = .int .u64 (sum : Int) := Option.some.inj h3
   have h8' : f3 8 = .pointer (some ⟨b8, 0, none⟩) := Option.some.inj h8
   rw [h0', h2', h3', h8']
   clear h0 h2 h3 h8 h0' h2' h3' h8' hsz
   obtain ⟨N, hN⟩ : ∃ v, Hid (s.arcs.length = v) := ⟨_, Lib.hid rfl⟩
   have HS := Lib.hid (And.intro hs (And.intro hW (And.intro hS0 hF)))
   clear hs hW hS0 hF
   apply hK3
   clear hK3
   go_wp2_with fail
   refine wp_loop_ghost_k (fun g A1 wx => A1.defers = [] ∧ A1.tmps.size = 96 ∧ A1.tmps[0]? = some (.pointer (some ⟨wb, 0, none⟩)) ∧ A1.tmps[2]? = some (.string ts) ∧ A1.tmps[3]? = some (.int .u64 (sum : Int)) ∧ A1.tmps[8]? = some (.pointer (some ⟨b8, 0, none⟩)) ∧ ∃ ti, A1.tmps[10]? = some ti ∧ WkI w base wb gd n cap gb SS s A fo b8 ts sum Kt N g ti wx) N ⟨rfl, rfl, rfl, rfl, rfl, rfl, _, rfl, 0, S0, Nat.zero_le _, rfl, rfl, HS.out.1, HS.out.2.1, by rw [List.take_zero, List.flatMap_nil, List.append_nil]; exact HS.out.2.2.1, HS.out.2.2.2⟩ ?_
   clear HS
   rintro g ⟨tm, df⟩ wr ⟨hd, hsz, h0, h2, h3, h8, ti, hti, hrel⟩ J KO hJ hK'
   simp only at hd hsz h0 h2 h3 h8 hti
   subst hd
   obtain ⟨f4, rfl⟩ := lit96 tm hsz
   obtain ⟨i, S1, hi, rfl, rfl, hs, hW, hS1, hF⟩ := hrel
   have h0' : f4 0 = .pointer (some ⟨wb, 0, none⟩) := Option.some.inj h0
   have h2' : f4 2 = .string ts := Option.some.inj h2
   have h3' : f4 3 = .int .u64 (sum : Int) := Option.some.inj h3
   have h8' : f4 8 = .pointer (some ⟨b8, 0, none⟩) := Option.some.inj h8
   have h10' : f4 10 = .int .i64 (i : Int) := Option.some.inj hti
   rw [h0', h2', h3', h8', h10']
   clear h0 h2 h3 h8 hti h0' h2' h3' h8' h10' hsz
   have HS := Lib.hid (And.intro hs (And.intro hW (And.intro hS1 hF)))
   obtain ⟨fa, hra, -⟩ := hs.row
   obtain ⟨A2, cA, rfl⟩ := rowv hra
   have b2 := hs.blk.cell 2 rfl
   rw [hN.out] at b2
   by_cases hend : i = N
   ·have d3 : ¬ (i : Int) < (N : Int) := by omega
    have hta : s.arcs.take i = s.arcs := List.take_of_length_le (by have := hN.out; omega)
    have HE := Lib.hid hta
    clear hs hW hS1 hF hra hi hend hta
    go_wp2_with fail
    go_end0
    obtain ⟨hs, hW, hS1, hF⟩ := HS.out
    rw [HE.out] at hS1
    exact ⟨rfl, S1, hS1, hW, hF⟩
   ·obtain ⟨x, hxi⟩ : ∃ x, s.arcs[i]? = some x := ⟨_, List.getElem?_eq_getElem (by rw [hN.out]; omega)⟩
    have hin := List.mem_of_getElem? hxi
    obtain ⟨ga, ca, eA, m0, m1, m2⟩ := hs.at_ hxi
    injection eA with eA1 eA2 eA3
    subst eA1 eA3
    clear eA2
    have hx256 := HH.out.2.2.2.2.2 x hin
    obtain ⟨xi, xo, xt⟩ := x
    simp only at m0 m1 m2 hx256
    have hmem : ∀ q, q ∈ Kt xt → ((xi :: q.1, xo + q.2) : List Nat × Nat) ∈ kown Kt s := fun q hq => by
     unfold kown
     refine List.mem_append_right _ (List.mem_flatMap.2 ⟨_, hin, ?_⟩)
     exact List.mem_map.2 ⟨q, hq, rfl⟩
    have hso : sum + xo < 2 ^ 64 := by
     obtain ⟨q, hq⟩ := List.exists_mem_of_ne_nil _ (HNE.out _ hin)
     have := (HH.out.2.2.2.2.1 _ (hmem q hq)).2
     simp only at this; omega
    have e1 : IntKind.u64.wrap ((sum : Int) + (xo : Int)) = ((sum + xo : Nat) : Int) := by rw [IntWalk.u64_in _ (by omega)]; omega
    have hbt : bytesOf (ts ++ ⟨#[UInt8.ofNat xi]⟩) = bytesOf ts ++ [xi] := by
     simp [bytesOf, ByteArray.data_append]
     omega
    have htz : (ts ++ ⟨#[UInt8.ofNat xi]⟩ : ByteArray).size = ts.size + 1 := by rw [← bytesOf_len, hbt, List.length_append, bytesOf_len]; rfl
    have hcnt : (SS ++ S1).length + (Kt xt).length ≤ 65536 := by
     have h1 := congrArg List.length hS1
     have h2 := HH.out.2.1
     have h3 := congrArg (fun l => (l.flatMap fun t => pre t.1 t.2.1 (Kt t.2.2)).length) (List.take_append_drop (i + 1) s.arcs)
     simp only [List.flatMap_append, List.length_append] at h3
     rw [take_snoc hxi, List.flatMap_append] at h3
     unfold kown at h2
     simp only [List.length_append, List.flatMap_cons, List.flatMap_nil, List.append_nil, outp, prsOf, List.length_map, pre] at h1 h2 h3 ⊢
     omega
    have hcall : ∀ W, Fr (fun _ => False) wr W → Calls Tryz.prog 23 #[.pointer (some ⟨wb, 0, none⟩), .int .i64 (xt : Int), .string (ts ++ ⟨#[UInt8.ofNat xi]⟩), .int .u64 ((sum + xo : Nat) : Int)] W (WkPost W base wb gd n cap gb (SS ++ S1) (ts ++ ⟨#[UInt8.ofNat xi]⟩) (sum + xo) (Kt xt)) := fun W hW' => HI.out _ hin (fun q hq => by
     have := HH.out.2.2.2.2.1 _ (hmem q hq)
     simp only [List.length_cons] at this
     rw [htz]; omega) hcnt ((HH.out.2.2.1.fr hF).fr (wf_false hW')) (hW.fr0 hW')
    have hadd : ∀ W : World, (Op.stringOp .add ts ⟨#[UInt8.ofNat xi]⟩).run Tryz.prog W = .ok (.string (ts ++ ⟨#[UInt8.ofNat xi]⟩)) W := fun W => run_string_add_sum W ts ⟨#[UInt8.ofNat xi]⟩ (by have := HH.out.1; have : (⟨#[UInt8.ofNat xi]⟩ : ByteArray).size = 1 := rfl; omega)
    have hconv : (convert 29 9 (.slice (some ⟨wr.heap.size, 0, none⟩) 1 1)).run Tryz.prog (wr.alloc (.cells #[.int .u8 (xi : Int)] 5)).drew = .ok (.string ⟨#[UInt8.ofNat xi]⟩) (wr.alloc (.cells #[.int .u8 (xi : Int)] 5)).drew := run_convert_bytes_back (P := Tryz.prog) _ 29 9 5 ⟨wr.heap.size, 0, none⟩ 1 [UInt8.ofNat xi] (by kernel_rfl) (by kernel_rfl) (by kernel_rfl) (fun j hj => by
     obtain rfl : j = 0 := by simp at hj; omega
     have hb := Blk.new wr [.int .u8 (xi : Int)] 5
     have h1 := hb.cell 0 rfl
     simp only [List.getElem_cons_zero]
     rw [UInt8.toNat_ofNat_of_lt' (by simpa using hx256)]
     exact h1)
    have d3 : (i : Int) < (N : Int) := by omega
    have d4 : IntKind.i64.wrap ((i : Int) + 1) = ((i + 1 : Nat) : Int) := by have := HSL.out; have := hN.out; rw [IntWalk.i64_in _ (by omega)]; omega
    have hA : ∀ ob, (wr.alloc ob).cell? ⟨b8, 2, none⟩ = some (.slice (some ⟨ga, 0, none⟩) N cA) ∧ (wr.alloc ob).cell? ⟨ga, i * 3, none⟩ = some (.int .u8 (xi : Int)) ∧ (wr.alloc ob).cell? ⟨ga, i * 3 + 1, none⟩ = some (.int .u64 (xo : Int)) ∧ (wr.alloc ob).cell? ⟨ga, i * 3 + 2, none⟩ = some (.int .i64 (xt : Int)) := fun ob => by
     have k := (Fr.refl (fun _ => False) wr).alloc ob
     exact ⟨k.cell b2 (fun h => h), k.cell m0 (fun h => h), k.cell m1 (fun h => h), k.cell m2 (fun h => h)⟩
    have HC := Lib.hid (And.intro hcall (And.intro hbt hxi))
    clear hs hW hS1 hF hra hi hend hin hx256 hmem hso htz hcnt hcall hbt hxi
    go_wp2_with fail
    refine wp_region_seqV (fun W => W.cell? ⟨b8, 2, none⟩ = some (.slice (some ⟨ga, 0, none⟩) N cA) ∧ W.cell? ⟨ga, i * 3, none⟩ = some (.int .u8 (xi : Int)) ∧ W.cell? ⟨ga, i * 3 + 1, none⟩ = some (.int .u64 (xo : Int)) ∧ W.cell? ⟨ga, i * 3 + 2, none⟩ = some (.int .i64 (xt : Int))) (fun i => decide (i ≠ 14 ∧ i ≠ 15 ∧ i ≠ 25)) (fun i => ![2, 6, 9, 13, 19, 23].contains i && decide (i ≠ 14 ∧ i ≠ 15 ∧ i ≠ 25)) (fun i => false) [0, 1, 2, 3, 4, 5, 6, 7, 8, 9, 10, 11, 12, 13, 17, 18, 19, 20, 21, 22, 23, 24, 14, 15, 16, 25] (by kernel_rfl) (by kernel_rfl) (fun c a d v w h => by cases d <;> exact h) ⟨b2, m0, m1, m2⟩ ?_
    iterate 2 (apply seqV_pure (ho := rfl) (hr := rfl) (hg := rfl); (intro w'; go_simp; rfl))
    (apply seqV_read (ho := rfl) (hr := rfl) (hp := rfl) (hg := rfl); (rintro w' ⟨q0, q1, q2, q3⟩; go_simp; rfl))
    go_simp
    iterate 3 (apply seqV_pure (ho := rfl) (hr := rfl) (hg := rfl); (intro w'; go_simp; rfl))
    (apply seqV_read (ho := rfl) (hr := rfl) (hp := rfl) (hg := rfl); (rintro w' ⟨q0, q1, q2, q3⟩; go_simp; rfl))
    go_simp
    iterate 2 (apply seqV_pure (ho := rfl) (hr := rfl) (hg := rfl); (intro w'; go_simp; rfl))
    (apply seqV_read (ho := rfl) (hr := rfl) (hp := rfl) (hg := rfl); (rintro w' ⟨q0, q1, q2, q3⟩; go_simp; rfl))
    go_simp
    iterate 3 (apply seqV_pure (ho := rfl) (hr := rfl) (hg := rfl); (intro w'; go_simp; rfl))
    (apply seqV_read (ho := rfl) (hr := rfl) (hp := rfl) (hg := rfl); (rintro w' ⟨q0, q1, q2, q3⟩; go_simp; rfl))
    go_simp
    iterate 2 (apply seqV_pure (ho := rfl) (hr := rfl) (hg := rfl); (intro w'; go_simp; rfl))
    (apply seqV_read (ho := rfl) (hr := rfl) (hp := rfl) (hg := rfl); (rintro w' ⟨q0, q1, q2, q3⟩; go_simp; rfl))
    go_simp
    iterate 3 (apply seqV_pure (ho := rfl) (hr := rfl) (hg := rfl); (intro w'; go_simp; rfl))
    (apply seqV_read (ho := rfl) (hr := rfl) (hp := rfl) (hg := rfl); (rintro w' ⟨q0, q1, q2, q3⟩; go_simp; rfl))
    go_simp
    iterate 1 (apply seqV_pure (ho := rfl) (hr := rfl) (hg := rfl); (intro w'; go_simp; rfl))
    refine seqV_do rfl rfl fun K hK => ?_
    go_simp
    refine hK _ _ (fun _ => hA _) ?_
    clear hK K
    go_simp
    refine seqV_do rfl rfl fun K hK => ?_
    go_simp
    refine hK _ _ (fun _ => hA _) ?_
    clear hK K
    go_simp
    iterate 1 (apply seqV_pure (ho := rfl) (hr := rfl) (hg := rfl); (intro w'; go_simp; rfl))
    refine seqV_do rfl rfl fun K hK => ?_
    go_simp
    refine (HC.out.1 _ ((Fr.refl (fun _ => False) wr).alloc _).drew).mono ?_
    rintro e w4 ⟨rfl, S2, hS2, hW2, hF2⟩
    have HR := Lib.hid (And.intro hS2 (And.intro hW2 (wf_trans (wf_false (base := base) ((Fr.refl (fun _ => False) wr).alloc _).drew) hF2)))
    clear hS2 hW2 hF2
    have hs4 := HS.out.1.fr HR.out.2.2
    have b2c := hs4.blk.cell 2 rfl
    obtain ⟨ga', ca', eA, n0, n1, n2⟩ := hs4.at_ HC.out.2.2
    injection eA with eA
    injection eA with eA
    injection eA with eA
    subst eA
    rw [hN.out] at b2c
    clear hs4
    refine hK _ _ (fun _ => ⟨b2c, n0, n1, n2⟩) ?_
    clear hK K
    go_simp
    unfold seqV
    go_simp
    go_wp2_with fail
    obtain ⟨hs, hW, hS1, hF⟩ := HS.out
    obtain ⟨hS2, hW2, hF2⟩ := HR.out
    rw [List.append_assoc] at hW2
    rw [HC.out.2.1] at hS2
    exact Handed.intro (N - (i + 1)) (by omega) (hJ _ _ _ ⟨rfl, rfl, rfl, rfl, rfl, rfl, _, rfl, i + 1, S1 ++ S2, by omega, rfl, rfl, hs.fr hF2, hW2, by
     have e1 : prsOf (S1 ++ S2) = prsOf S1 ++ prsOf S2 := by simp [prsOf]
     rw [e1, hS1, hS2, take_snoc HC.out.2.2, List.flatMap_append, ← List.append_assoc, outp_app _ _ (_ ++ _), ← outp_pre]
     simp, wf_trans hF hF2⟩)
  clear hK3
  cases fi with
  | false =>
   clear hRow r2 z2 rg
   go_wp2_with fail
   exact hgo3 _ X [] rfl rfl rfl rfl rfl rfl HX.out.1 (by rw [List.append_nil]; exact HH.out.2.2.2.1.fr0 HX.out.2.1) (by rw [hfi.out]; rfl) (wf_false HX.out.2.1)
  | true =>
   have hfo := HX.out.1.fo hfi.out
   have hin : (([] : List Nat), s.fout) ∈ kown Kt s := by unfold kown; rw [hfi.out]; simp
   have hsum := (HH.out.2.2.2.2.1 _ hin).2
   simp only at hsum
   have e1 : IntKind.u64.wrap ((sum : Int) + (fo : Int)) = ((sum + fo : Nat) : Int) := by rw [hfo, IntWalk.u64_in _ (by omega)]; omega
   obtain ⟨sf, hsf⟩ : ∃ v, Hid (sum + fo = v) := ⟨_, Lib.hid rfl⟩
   rw [hsf.out] at e1
   have hA : ∀ ob, (X.alloc ob).cell? ⟨wb, 2, none⟩ = some (.slice Av m cv) ∧ (X.alloc ob).cell? ⟨b8, 1, none⟩ = some (.int .u64 (fo : Int)) := fun ob => ⟨(HX.out.2.2.1.alloc ob).cell 2 (by rw [hm.out]; rfl), (HX.out.1.blk.alloc ob).cell 1 rfl⟩
   have hne1 : Hid (¬ (Value.slice Av m cv).ownBlock = some wb ∧ ¬ (Value.slice Av m cv).ownBlock = some b8) := Lib.hid (by
    rcases hRow with ⟨e, _⟩ | ⟨g', c', e, hb', _⟩
    ·rw [e]; simp [Value.ownBlock]
    ·rw [e]
     simp only [Value.ownBlock, Option.some.injEq]
     constructor
     ·intro e2; subst e2; exact absurd (HX.out.2.2.1.inj hb').2 (by decide)
     ·intro e2; subst e2; exact absurd (HX.out.1.blk.inj hb').2 (by decide))
   clear hfo hin hsum
   go_wp2_with fail
   refine wp_region_seqV (fun W => W.cell? ⟨wb, 2, none⟩ = some (.slice Av m cv) ∧ W.cell? ⟨b8, 1, none⟩ = some (.int .u64 (fo : Int))) (fun i => decide (i ≠ 11 ∧ i ≠ 12 ∧ i ≠ 15)) (fun i => ![4, 8].contains i && decide (i ≠ 11 ∧ i ≠ 12 ∧ i ≠ 15)) (fun i => decide (i = 15)) [0, 1, 2, 3, 4, 5, 6, 7, 8, 9, 10, 11, 12, 13, 14, 15] (by kernel_rfl) (by kernel_rfl) (fun c a d v w h => by cases d <;> exact h) ⟨r2, rg⟩ ?_
   iterate 3 (apply seqV_pure (ho := rfl) (hr := rfl) (hg := rfl); (intro w'; go_simp; rfl))
   go_simp
   iterate 1 (apply seqV_pure (ho := rfl) (hr := rfl) (hg := rfl); (intro w'; go_simp; rfl))
   (apply seqV_read (ho := rfl) (hr := rfl) (hp := rfl) (hg := rfl); (rintro w' ⟨q0, q1⟩; go_simp; rfl))
   go_simp
   iterate 3 (apply seqV_pure (ho := rfl) (hr := rfl) (hg := rfl); (intro w'; go_simp; rfl))
   (apply seqV_read (ho := rfl) (hr := rfl) (hp := rfl) (hg := rfl); (rintro w' ⟨q0, q1⟩; go_simp; rfl))
   go_simp
   iterate 2 (apply seqV_pure (ho := rfl) (hr := rfl) (hg := rfl); (intro w'; go_simp; rfl))
   refine seqV_do rfl rfl fun K hK => ?_
   go_simp
   refine hK _ _ (fun _ => hA _) ?_
   clear hK K
   go_simp
   refine seqV_do rfl rfl fun K hK => ?_
   rw [if_pos (show Region.wanted _ _ = true from rfl)]
   refine step_app1f X.drew rfl _ _ 26 rfl 42 (.agg #[.string ⟨#[]⟩, .int .u64 0]) 2 24 (by kernel_rfl) (by kernel_rfl) rfl (.slice Av m cv) m full [.string ts, .int .u64 (sf : Int)] rfl rfl hRow rfl (by simp [Value.oneCell']) (by have := HH.out.2.1; have := hm.out; omega) (by decide) ?_
   intro v5 w5 full5 hr5 hF5 hc5
   obtain ⟨A5n, cap5n, rfl⟩ := rowv hr5
   have d5 : w5.cell? ⟨wb, 2, none⟩ = some (.slice Av m cv) := hF5.cell r2 hne1.out.1
   have g5 : w5.cell? ⟨b8, 1, none⟩ = some (.int .u64 (fo : Int)) := hF5.cell rg hne1.out.2
   have z5 : w5.frozen? ⟨wb, 2, none⟩ = false := (HX.out.2.2.1.drew.fr hF5 hne1.out.1).frz 2
   clear r2 rg z2 rf r3 hA
   refine hK _ _ (fun _ => ⟨d5, g5⟩) ?_
   clear hK K
   go_simp
   iterate 2 (apply seqV_pure (ho := rfl) (hr := rfl) (hg := rfl); (intro w'; go_simp; rfl))
   refine seqV_do rfl rfl fun K hK => ?_
   go_simp
   refine hK _ _ (fun h => by cases h) ?_
   clear hK K
   unfold seqV
   go_simp
   have hb1 : Blk X.drew wb [.slice (some ⟨gd, 0, none⟩) n cap, .slice (some ⟨gb, 0, none⟩) 64 64, .slice Av m cv, .bool false] 66 := by have h := HX.out.2.2.1; rw [hm.out] at h; exact h
   obtain ⟨q1, q2⟩ := WkAt.app (s := (ts, sf)) (O := SS) (base := base) hb1 HH.out.2.2.2.1.ge (by rw [hm.out]; exact hRow) HX.out.2.2.2.1 (fun b hb => HX.out.2.2.2.2.1 b (by rw [hm.out]; exact hb)) (Nat.le_trans HH.out.2.2.1.bsz HX.out.2.1.size) (by rw [hm.out]; exact hr5) hF5 (by rw [hm.out]; exact hc5)
   have q3 : Fr (Wf base X) X _ := (Fr.refl (Wf base X) X).drew.trans q2 (fun _ _ h => h)
   exact hgo3 _ _ [(ts, sf)] rfl rfl rfl rfl rfl rfl (HX.out.1.fr q3) q1 (by rw [hfi.out, ← hsf.out, HX.out.1.fo hfi.out]; simp [prsOf, outp]) (wf_trans (wf_false HX.out.2.1) q3)
 clear hK1
 refine wp_region_fork (by kernel_rfl) ?_
 refine anyF_pre (n := 9) (l' := #[true, true, true, false, true, true, true, true, false, false, false, false, false, false, false, false]) (T := fun a w => anyF Tryz.prog .any _ _ 9 #[true, true, true, false, true, true, true, true, false, false, false, false, false, false, false, false] a w) (by kernel_rfl) (fun c a d v w h => by cases d <;> exact h) (fun _ _ h => h) [0, 1, 2, 4, 5, 6, 7] _ _ _ (by kernel_rfl) ?_
 iterate 3 (apply preV_pure (ho := rfl) (hg := rfl); (intro w'; go_simp; rfl))
 go_simp
 iterate 4 (apply preV_pure (ho := rfl) (hg := rfl); (intro w'; go_simp; rfl))
 unfold preV
 go_simp
 refine anyF_fork (i := 3) (L := [8, 13]) (by decide +kernel) ?_
 intro j hj
 simp only [List.mem_cons, List.not_mem_nil, or_false] at hj
 rcases hj with rfl | rfl | rfl
 all_goals (
  refine wpOp_run rfl ?_
  go_simp
  first | refine anyF_fork (i := 8) (L := [13]) (by decide +kernel) ?_ | refine anyF_fork (i := 3) (L := [13]) (by decide +kernel) ?_ | refine anyF_fork (i := 3) (L := [8]) (by decide +kernel) ?_
  intro j hj
  simp only [List.mem_cons, List.not_mem_nil, or_false] at hj
  rcases hj with rfl | rfl
  all_goals (
   refine wpOp_run rfl ?_
   go_simp))
 all_goals (
  first
  | (refine anyF_fork (i := 9) (L := [13]) (by decide +kernel) ?_
     intro j hj
     simp only [List.mem_cons, List.not_mem_nil, or_false] at hj
     rcases hj with rfl | rfl)
  | (refine anyF_fork (i := 8) (L := []) (by decide +kernel) ?_
     intro j hj
     simp only [List.mem_cons, List.not_mem_nil, or_false] at hj
     subst hj)
  | (refine anyF_fork (i := 3) (L := []) (by decide +kernel) ?_
     intro j hj
     simp only [List.mem_cons, List.not_mem_nil, or_false] at hj
     subst hj)
  all_goals (refine wpOp_run rfl ?_; go_simp))
 all_goals (
  first
  | (refine anyF_fork (i := 9) (L := []) (by decide +kernel) ?_
     intro j hj
     simp only [List.mem_cons, List.not_mem_nil, or_false] at hj
     subst hj
     refine wpOp_run rfl ?_
     go_simp)
  | skip)
 all_goals (
  refine (hrd _ (by first | exact (Fr.refl (fun _ => False) w).drew | exact ((Fr.refl (fun _ => False) w).alloc _).drew)).mono ?_
  rintro e w2 ⟨A, full, fo, rfl, hfo, hr, hf, ho, hF⟩
  obtain ⟨A1, cA, rfl⟩ := rowv hr
  obtain ⟨fi, hfi⟩ : ∃ v, Hid (s.fin = v) := ⟨_, Lib.hid rfl⟩
  obtain ⟨N, hN⟩ : ∃ v, Hid (s.arcs.length = v) := ⟨_, Lib.hid rfl⟩
  have HE := Lib.hid (And.intro hfo (And.intro hr (And.intro hf (And.intro ho hF))))
  rw [hfi.out, hN.out]
  first
  | (have hb2 := H8.out.drew.fr hF (fun h => h)
     have o0 := hb2.cell 0 rfl
     have o1 := hb2.cell 1 rfl
     have o2 := hb2.cell 2 rfl
     have p0 := hb2.frz 0
     have p1 := hb2.frz 1
     have p2 := hb2.frz 2
     clear hb2)
  | skip
  clear hfo hr hf ho hF
  go_simp
  first
  | (refine anyF_pre (n := 3) (l' := #[true, true, true, true, true, true, true, true, true, true, true, true, true, false, false, false]) (T := fun a w => anyF Tryz.prog .any _ _ 3 #[true, true, true, true, true, true, true, true, true, true, true, true, true, false, false, false] a w) (by kernel_rfl) ?_ (fun _ _ h => h) [10, 11, 12] _ _ _ ?_ ?_
     ·intro c a d v w h; cases d <;> exact h
     ·decide +kernel)
  | (refine anyF_pre (n := 2) (l' := #[true, true, true, true, true, true, true, true, true, true, true, true, true, true, false, false]) (T := fun a w => anyF Tryz.prog .any _ _ 2 #[true, true, true, true, true, true, true, true, true, true, true, true, true, true, false, false] a w) (by kernel_rfl) ?_ (fun _ _ h => h) [10, 11, 12] _ _ _ ?_ ?_
     ·intro c a d v w h; cases d <;> exact h
     ·decide +kernel)
  iterate 3 (apply preV_pure (ho := rfl) (hg := rfl); (intro w'; go_simp; rfl))
  unfold preV
  go_simp
  first
  | (refine anyF_fork (i := 13) (L := []) (by decide +kernel) ?_
     intro j hj
     simp only [List.mem_cons, List.not_mem_nil, or_false] at hj
     subst hj
     refine wpOp_run rfl ?_
     go_simp
     refine anyF_fork (i := 14) (L := []) (by decide +kernel) ?_
     intro j hj
     simp only [List.mem_cons, List.not_mem_nil, or_false] at hj
     subst hj
     refine wpOp_run rfl ?_
     go_simp
     skip)
  | (refine anyF_fork (i := 14) (L := []) (by decide +kernel) ?_
     intro j hj
     simp only [List.mem_cons, List.not_mem_nil, or_false] at hj
     subst hj
     refine wpOp_run rfl ?_
     go_simp
     skip)
  refine anyF_fork (i := 15) (L := []) (by decide +kernel) ?_
  intro j hj
  simp only [List.mem_cons, List.not_mem_nil, or_false] at hj
  subst hj
  refine wpOp_run rfl ?_
  go_simp
  refine anyF_end (by decide +kernel) ?_
  show K1 _ _
  obtain ⟨hfo, hr, hf, ho, hF⟩ := HE.out
  first
  | (obtain ⟨h1, h2⟩ := wks_a (Fr.refl (fun _ => False) w).drew hfi.out hN.out hfo hr hf hF
     exact hgo _ _ _ fo _ rfl rfl rfl rfl rfl rfl rfl h1 h2)
  | (obtain ⟨h1, h2⟩ := wks_b H8.out.drew ((Fr.refl (fun _ => False) w).alloc _).drew hfi.out hN.out hfo hr hf ho hF
     exact hgo _ _ _ fo _ rfl rfl rfl rfl rfl rfl rfl h1 h2))
end Go.Proofs.YtmhlnijpimjjaaaGreatDoor
