/-
  spec.Turkish: a new list of four ranges.
-/
import Derived.Test.YtgkjnoahphlgaaaDoorLaw
namespace Go.Proofs.YtgkjnoahphlgaaaDoor
open Go.RowKit

def turk : List Row := [⟨73, 73, 0, 232, 0⟩, ⟨105, 105, 199, 0, 199⟩, ⟨304, 304, 0, -199, 0⟩, ⟨305, 305, -232, 0, -232⟩]
theorem wf_turk : Wf turk := by
  intro x hx
  simp only [turk, List.mem_cons, List.not_mem_nil, or_false] at hx
  rcases hx with rfl | rfl | rfl | rfl <;> (unfold Row.wf; decide)
theorem srt_turk : Srt turk := by
  refine ⟨fun x hx => ?_, by simp [turk]⟩
  simp only [turk, List.mem_cons, List.not_mem_nil, or_false] at hx
  rcases hx with rfl | rfl | rfl | rfl <;> (unfold Row.ok; decide)
theorem turk_none {S : Int → Int} {c : Nat} {r : Int} (h1 : r ≠ 73) (h2 : r ≠ 105) (h3 : r ≠ 304) (h4 : r ≠ 305) : sp S c turk r = S r := by
  refine sp_none ?_
  rw [List.find?_eq_none]
  intro x hx
  simp only [turk, List.mem_cons, List.not_mem_nil, or_false] at hx
  rcases hx with rfl | rfl | rfl | rfl <;> (rw [Row.has_iff]; simp only; omega)

set_option maxHeartbeats 1000000 in
theorem turkish_any (w : World) :
    Calls Tryd.prog 28 #[] w fun e w' => e = .returned (.slice (some ⟨w.heap.size, 0, none⟩) 4 4) ∧ Lst w' (some ⟨w.heap.size, 0, none⟩) turk ∧ Below w.heap.size w w' := by
  go_enter Tryd.func28, Tryd.ntmps28
  go_wp2
  go_ret
  refine ⟨rfl, fun _ => ⟨w.heap.size, 0, rfl, by simp, fun i hi => ?_⟩, (Below.refl _ _).alloc (Nat.le_refl _) _⟩
  have hi4 : i = 0 ∨ i = 1 ∨ i = 2 ∨ i = 3 := by simp [turk] at hi; omega
  rcases hi4 with rfl | rfl | rfl | rfl <;> exact ⟨World.cell?_alloc_new w _ _ _, World.cell?_alloc_new w _ _ _, World.cell?_alloc_new w _ _ _, World.cell?_alloc_new w _ _ _, World.cell?_alloc_new w _ _ _⟩
end Go.Proofs.YtgkjnoahphlgaaaDoor
