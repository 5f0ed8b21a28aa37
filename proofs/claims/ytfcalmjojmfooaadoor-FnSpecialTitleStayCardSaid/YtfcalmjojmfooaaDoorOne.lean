/-
  THE THIN PACKAGE's FUNCTIONS OVER A LIST OF ONE RANGE; what a list that the laws make means.
-/
import Derived.Test.YtfcalmjojmfooaaDoorLaw
namespace Go.Proofs.YtfcalmjojmfooaaDoor
open Go.RowKit

theorem oneUpper (x : Row) (r y : Int) (w : World) (hwf : x.wf) (hok : x.ok) (hr : x.has r = true) (hy : wrap32 (conv 0 r x) = y) (hV : CV w caseS) :
    Calls Tryd.prog 15 #[.slice (some ⟨w.heap.size, 0, none⟩) 1 1, .int .i32 r] (w.alloc x.blk) fun e w' => e = .returned (.int .i32 y) ∧ Below w.heap.size w w' := by
  have hh := Row.has_iff.1 hr
  have hb : Below w.heap.size w (w.alloc x.blk) := (Below.refl w.heap.size w).alloc (Nat.le_refl _) _
  have h := SpecialUpper_any (some ⟨w.heap.size, 0, none⟩) 1 [x] caseS r (w.alloc x.blk) (lst_one w x) (Wf_one hwf) (Srt_one hok) (hV.below hb) caseS_ok (by have := hok.1; omega)
  rw [sp_one hr, hy] at h
  exact h.mono fun e w' ⟨he, hb'⟩ => ⟨he, hb.trans (hb'.mono (by simp))⟩

theorem oneLower (x : Row) (r y : Int) (w : World) (hwf : x.wf) (hok : x.ok) (hr : x.has r = true) (hy : wrap32 (conv 1 r x) = y) (hV : CV w caseS) :
    Calls Tryd.prog 25 #[.slice (some ⟨w.heap.size, 0, none⟩) 1 1, .int .i32 r] (w.alloc x.blk) fun e w' => e = .returned (.int .i32 y) ∧ Below w.heap.size w w' := by
  have hh := Row.has_iff.1 hr
  have hb : Below w.heap.size w (w.alloc x.blk) := (Below.refl w.heap.size w).alloc (Nat.le_refl _) _
  have h := SpecialLower_any (some ⟨w.heap.size, 0, none⟩) 1 [x] caseS r (w.alloc x.blk) (lst_one w x) (Wf_one hwf) (Srt_one hok) (hV.below hb) caseS_ok (by have := hok.1; omega)
  rw [sp_one hr, hy] at h
  exact h.mono fun e w' ⟨he, hb'⟩ => ⟨he, hb.trans (hb'.mono (by simp))⟩

theorem oneTitle (x : Row) (r y : Int) (w : World) (hwf : x.wf) (hok : x.ok) (hr : x.has r = true) (hy : wrap32 (conv 2 r x) = y) (hV : CV w caseS) :
    Calls Tryd.prog 27 #[.slice (some ⟨w.heap.size, 0, none⟩) 1 1, .int .i32 r] (w.alloc x.blk) fun e w' => e = .returned (.int .i32 y) ∧ Below w.heap.size w w' := by
  have hh := Row.has_iff.1 hr
  have hb : Below w.heap.size w (w.alloc x.blk) := (Below.refl w.heap.size w).alloc (Nat.le_refl _) _
  have h := SpecialTitle_any (some ⟨w.heap.size, 0, none⟩) 1 [x] caseS r (w.alloc x.blk) (lst_one w x) (Wf_one hwf) (Srt_one hok) (hV.below hb) caseS_ok (by have := hok.1; omega)
  rw [sp_one hr, hy] at h
  exact h.mono fun e w' ⟨he, hb'⟩ => ⟨he, hb.trans (hb'.mono (by simp))⟩
end Go.Proofs.YtfcalmjojmfooaaDoor
