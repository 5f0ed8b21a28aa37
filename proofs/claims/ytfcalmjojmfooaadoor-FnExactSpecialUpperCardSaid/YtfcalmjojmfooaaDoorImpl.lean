/-
  THE THIN PACKAGE's special: a new slice of the library's own type with the rows of the list.
-/
import Derived.Test.YtfcalmjojmfooaaDoorOwn
namespace Go.Proofs.YtfcalmjojmfooaaDoor
open Go.RowKit

set_option maxHeartbeats 2000000 in
theorem special_any (A : Option Addr) (cp : Nat) (T : List Row) (w : World) (h : Lst w A T) (hwf : Wf T) (hlen : T.length ≤ 2000000) :
    Calls Tryd.prog 31 #[.slice A T.length cp] w fun e w' => ∃ v, e = .returned v ∧ Own w' w.heap.size 55 v T ∧ Below w.heap.size w w' := by
  have HW := Lib.hid hwf
  clear hwf
  obtain ⟨i0, hi, hz0, hz1, hz2⟩ := info_parts info55
  go_enter Tryd.func31, Tryd.ntmps31
  go_wp2
  go_loopw [3, 11] (fun v s11 wr => ∃ k : Nat, k ≤ T.length ∧ s11 = .int .i64 k ∧ Own wr w.heap.size 55 v (T.take k) ∧ Below w.heap.size w wr) (fun _ s11 _ => T.length - (intOf s11).toNat)
  case atStart => exact ⟨0, Nat.zero_le _, rfl, Own.made w _ _ (Nat.le_refl _), (Below.refl _ _).alloc (Nat.le_refl _) _⟩
  case round =>
    obtain ⟨k, hk, rfl, hown, hbel⟩ := hrel
    have HB := Lib.hid hbel
    have HO := Lib.hid hown
    by_cases hlt : k < T.length
    · obtain ⟨b, o, x, rfl, hb, hx, hm, c0, c1, c2, c3, c4⟩ := h.at_ hlt
      have d0 := (hbel.cell (p := ⟨b, o + k * 5, none⟩) hb).trans c0
      have d1 := (hbel.cell (p := ⟨b, o + k * 5 + 1, none⟩) hb).trans c1
      have d2 := (hbel.cell (p := ⟨b, o + k * 5 + 2, none⟩) hb).trans c2
      have d3 := (hbel.cell (p := ⟨b, o + k * 5 + 3, none⟩) hb).trans c3
      have d4 := (hbel.cell (p := ⟨b, o + k * 5 + 4, none⟩) hb).trans c4
      have HX := Lib.hid hx
      clear hx hm c0 c1 c2 c3 c4 hown hbel h
      go_wp2
      refine wp_loop_rounds 4 ?_
      rw [rounds_succ]
      go_wp2
      rw [rounds_succ]
      go_wp2
      rw [rounds_succ]
      go_wp2
      rw [rounds_succ]
      go_wp2_with (at_builtin; refine wpList_append_own _ rfl (.tmp 31) (.tmp 33) 43 rfl w.heap.size 55 i0 _ 5 20 Tryd.underlying43 hi hz0 hz1 hz2 rfl (by decide) _ _ _ rfl (((HO.out.1.alloc _).alloc _).alloc _) ⟨wr.heap.size + 1 + 1, 0, none⟩ 1 1 x.cells rfl rfl ?c1 (cells_one x) ?c3 ?c4 ?c5 ?_)
      case c1 => exact news_of (cell_new5 _ x _ _ (by simp))
      case c3 => rw [List.length_take]; unfold maxLen; omega
      case c4 => rw [List.length_take]; omega
      case c5 => have := HB.out.size; simp; omega
      · intro v' w1 hown' hgrow hnil
        have R : Own w1 w.heap.size 55 v' (T.take (k + 1)) := by
          rw [take_snoc hlt, HX.out]
          exact Own.grow hnil (by rw [List.length_take]; omega) hown'
        have RB : Below w.heap.size w w1 := by
          have h1 := HB.out
          have h2 := h1.size
          exact (((h1.alloc h2 _).alloc (by simp; omega) _).alloc (by simp; omega) _).grown hgrow (by simp; omega) (fun g hg => (HO.out.1.lt g hg).1)
        have HR := Lib.hid R
        have HRB := Lib.hid RB
        clear R RB hown' hgrow hnil
        go_wp2
        go_roundw
        case rel => exact ⟨k + 1, by omega, by go_num, HR.out, HRB.out⟩
        case measure => simp [intOf]; omega
    · obtain rfl : k = T.length := by omega
      rw [List.take_length] at HO
      clear hown hbel
      go_wp2
      go_ret
      exact ⟨_, rfl, HO.out, HB.out⟩
end Go.Proofs.YtfcalmjojmfooaaDoor
