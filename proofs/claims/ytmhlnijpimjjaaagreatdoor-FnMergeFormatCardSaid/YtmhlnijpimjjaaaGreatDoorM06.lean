/- The tie, part three: no place is taken twice, and the rows that are read are whole. No condition. -/
import Derived.Test.YtmhlnijpimjjaaaGreatDoorM04
namespace Go.Proofs.YtmhlnijpimjjaaaGreatDoor
open Go
theorem row_mem {b n : Nat} {p : MemPlace} (h : p ∈ MemPlace.row ⟨b, 0, none⟩ n) : ∃ i, p = .cell b i := by
 unfold MemPlace.row at h
 obtain ⟨i, _, rfl⟩ := List.mem_map.1 h
 exact ⟨_, rfl⟩
theorem row_nodup (b n : Nat) : (MemPlace.row ⟨b, 0, none⟩ n).Nodup := by
 unfold MemPlace.row
 unfold List.Nodup
 rw [List.pairwise_map]
 exact List.nodup_range.imp fun h e => h (by injection e with _ e; omega)
theorem laidPs_nodup : laidPs.Nodup := by
 unfold laidPs
 rw [List.nodup_append]
 refine ⟨by decide, ?_, ?_⟩
 ·rw [List.nodup_append]
  refine ⟨row_nodup _ _, ?_, ?_⟩
  ·rw [List.nodup_append]
   refine ⟨by decide, row_nodup _ _, fun a ha b hb e => ?_⟩
   obtain ⟨i, rfl⟩ := row_mem hb
   simp only [List.mem_singleton] at ha
   rw [ha] at e; injection e with e; omega
  ·intro a ha b hb e
   obtain ⟨i, rfl⟩ := row_mem ha
   rcases List.mem_append.1 hb with hb | hb
   ·simp only [List.mem_singleton] at hb
    rw [hb] at e; injection e with e; omega
   ·obtain ⟨j, rfl⟩ := row_mem hb
    injection e with e; omega
 ·intro a ha b hb e
  simp only [List.mem_cons, List.not_mem_nil, or_false] at ha
  rcases List.mem_append.1 hb with hb | hb
  ·obtain ⟨i, rfl⟩ := row_mem hb
   rcases ha with rfl | rfl | rfl | rfl | rfl <;> injection e with e <;> omega
  ·rcases List.mem_append.1 hb with hb | hb
   ·simp only [List.mem_singleton] at hb
    subst hb
    rcases ha with rfl | rfl | rfl | rfl | rfl <;> injection e with e <;> omega
   ·obtain ⟨j, rfl⟩ := row_mem hb
    rcases ha with rfl | rfl | rfl | rfl | rfl <;> injection e with e <;> omega
theorem tie_rows : ∀ os tape, laidRowsB Tryz.prog (varsWorld Tryz.prog 400 (varsId Tryz.prog) os tape).memory laidPs = true := fun _ _ => by kernel_rfl
end Go.Proofs.YtmhlnijpimjjaaaGreatDoor
