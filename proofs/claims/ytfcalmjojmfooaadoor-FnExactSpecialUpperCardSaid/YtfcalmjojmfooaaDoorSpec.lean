/-
  THE REFERENCE's SMALL FUNCTIONS: ByTurns, goodRange, Of.
-/
import Derived.Test.YtfcalmjojmfooaaDoorBase
namespace Go.Proofs.YtfcalmjojmfooaaDoor
open Go.RowKit

abbrev Row.val (x : Row) : Value := .agg #[.int .u32 x.lo, .int .u32 x.hi, .int .i32 x.d0, .int .i32 x.d1, .int .i32 x.d2]
abbrev Row.blk (x : Row) : Obj := .cells #[.int .u32 x.lo, .int .u32 x.hi, .int .i32 x.d0, .int .i32 x.d1, .int .i32 x.d2] 27

set_option maxHeartbeats 400000 in
theorem byTurns_any (x : Row) (w : World) :
    Calls Tryd.prog 37 #[x.val] w fun e w' => e = .returned (.bool (byT x)) ∧ w' = w.alloc x.blk := by
  obtain ⟨lo, hi, d0, d1, d2⟩ := x
  unfold byT
  simp only
  by_cases h0 : (d0 == 1114112) = true
  · by_cases h1 : (d1 == 1114112) = true
    · go_enter Tryd.func37, Tryd.ntmps37
      go_wp2
      go_ret
      exact ⟨by simp [h0, h1], rfl⟩
    · have h1' : (d1 == 1114112) = false := by simpa using h1
      clear h1
      go_enter Tryd.func37, Tryd.ntmps37
      go_wp2
      go_ret
      exact ⟨by simp [h0, h1'], rfl⟩
  · have h0' : (d0 == 1114112) = false := by simpa using h0
    clear h0
    go_enter Tryd.func37, Tryd.ntmps37
    go_wp2
    go_ret
    exact ⟨by simp [h0'], rfl⟩

theorem byTurns_two (x : Row) (w : World) :
    Calls Tryd.prog 37 #[x.val] w fun e w' => e = .returned (.bool (byT x)) ∧ Below w.heap.size w w' :=
  (byTurns_any x w).mono fun _ _ ⟨he, hw⟩ => ⟨he, by subst hw; exact (Below.refl _ _).alloc (Nat.le_refl _) _⟩

theorem box_cells (x : Row) (w : World) {w1 : World} (hb : Below (w.heap.size + 1) (w.alloc x.blk) w1) : w1.cell? ⟨w.heap.size, 0, none⟩ = some (.int .u32 x.lo) ∧ w1.cell? ⟨w.heap.size, 1, none⟩ = some (.int .u32 x.hi) ∧
    ∀ k, k < 3 → w1.cell? ⟨w.heap.size, 2 + k, none⟩ = some (.int .i32 (x.delta k)) := by
  have hc : ∀ j, w1.cell? ⟨w.heap.size, j, none⟩ = (w.alloc x.blk).cell? ⟨w.heap.size, j, none⟩ := fun j => hb.cell (p := ⟨w.heap.size, j, none⟩) (by simp)
  refine ⟨by rw [hc, World.cell?_alloc_new]; rfl, by rw [hc, World.cell?_alloc_new]; rfl, fun k hk => ?_⟩
  rw [hc, World.cell?_alloc_new]
  have hk3 : k = 0 ∨ k = 1 ∨ k = 2 := by omega
  rcases hk3 with rfl | rfl | rfl <;> rfl

def dAll (x : Row) (k : Nat) : Prop := ∀ j, j < k → dOk x (x.delta j) = true
theorem dOk_true {x : Row} {d : Int} (h : dOk x d = true) : -1114111 ≤ d ∧ d ≤ 1114111 ∧ 0 ≤ x.lo + d ∧ x.hi + d ≤ 1114111 := by
  simp only [dOk, Bool.and_eq_true, decide_eq_true_eq] at h
  omega
theorem dOk_false {x : Row} {d : Int} (h : dOk x d = false) : d < -1114111 ∨ (-1114111 ≤ d ∧ 1114111 < d) ∨ (-1114111 ≤ d ∧ d ≤ 1114111 ∧ x.lo + d < 0) ∨ (-1114111 ≤ d ∧ d ≤ 1114111 ∧ 0 ≤ x.lo + d ∧ 1114111 < x.hi + d) := by
  simp only [dOk, Bool.and_eq_false_iff, decide_eq_false_iff_not] at h
  omega
theorem good_all {x : Row} (h1 : x.lo ≤ x.hi) (h2 : x.hi ≤ 1114111) (hb : byT x = false) (h : dAll x 3) : goodB x = true := by
  have e0 : dOk x x.d0 = true := h 0 (by omega)
  have e1 : dOk x x.d1 = true := h 1 (by omega)
  have e2 : dOk x x.d2 = true := h 2 (by omega)
  simp [goodB, h1, h2, hb, e0, e1, e2]
theorem good_not {x : Row} (hb : byT x = false) {k : Nat} (h : dOk x (x.delta k) = false) : goodB x = false := by
  cases hg : goodB x with
  | false => rfl
  | true =>
    have := good_delta hg (by simp [hb]) k
    have := dOk_false h
    omega
theorem wf_delta {x : Row} (hw : x.wf) (k : Nat) : -2147483648 ≤ x.delta k ∧ x.delta k ≤ 2147483647 := by
  obtain ⟨_, _, _, _, h⟩ := hw
  unfold Row.delta
  split
  · omega
  · split <;> omega

set_option maxHeartbeats 1000000 in
theorem goodRange_any (x : Row) (w : World) (hw : x.wf) :
    Calls Tryd.prog 36 #[x.val] w fun e w' => e = .returned (.bool (goodB x)) ∧ Below w.heap.size w w' := by
  have hw1 : 0 ≤ x.lo ∧ x.lo ≤ 4294967295 ∧ 0 ≤ x.hi ∧ x.hi ≤ 4294967295 := ⟨hw.1, hw.2.1, hw.2.2.1, hw.2.2.2.1⟩
  obtain ⟨w1, w2, w3, w4⟩ := hw1
  by_cases h1 : x.lo ≤ x.hi
  · by_cases h2 : x.hi ≤ 1114111
    · cases hb : byT x with
      | true =>
        have e : goodB x = ((x.hi - x.lo) % 2 == 1) := by simp [goodB, h1, h2, hb]
        rw [e]
        have cB := byTurns_any x (w.alloc x.blk)
        rw [hb] at cB
        have HB := Lib.hid cB
        clear hb e cB
        go_enter Tryd.func36, Tryd.ntmps36
        go_wp2_with fail
        refine HB.out.mono ?_
        rintro e w' ⟨rfl, rfl⟩
        go_wp2
        go_ret
        exact ⟨rfl, ((Below.refl _ _).alloc (Nat.le_refl _) _).alloc (by simp) _⟩
      | false =>
        have cB := byTurns_two x (w.alloc x.blk)
        rw [hb] at cB
        have HB := Lib.hid cB
        have H0 := Lib.hid hb
        have H1 := Lib.hid hw
        clear hb cB hw
        go_enter Tryd.func36, Tryd.ntmps36
        go_wp2_with fail
        refine HB.out.mono ?_
        rintro e wa ⟨rfl, hbel⟩
        simp only [World.size_alloc] at hbel
        obtain ⟨c0, c1, cD⟩ := box_cells x w hbel
        have HD := Lib.hid cD
        have HBel : Hid (Below w.heap.size w wa) := Lib.hid (((Below.refl w.heap.size w).alloc (Nat.le_refl _) x.blk).trans (hbel.mono (by omega)))
        clear cD hbel
        go_wp2
        go_loop [3] (fun s3 => ∃ k : Nat, k ≤ 3 ∧ s3 = .int .i64 k ∧ dAll x k) (fun s3 => 3 - (intOf s3).toNat)
        case atStart => exact ⟨0, by omega, rfl, fun j hj => by omega⟩
        case round =>
          obtain ⟨k, hk, rfl, hall⟩ := hrel
          have HA := Lib.hid hall
          clear hall
          by_cases hk3 : k < 3
          · have cd := HD.out k hk3
            have wd := wf_delta H1.out k
            cases hd : dOk x (x.delta k) with
            | true =>
              have hd4 := dOk_true hd
              have Hd := Lib.hid hd
              clear hd
              generalize hD : x.delta k = d at cd wd hd4
              clear hD
              obtain ⟨q1, q2, q3, q4⟩ := hd4
              obtain ⟨q5, q6⟩ := wd
              go_wp2
              go_round
              case rel => exact ⟨k + 1, by omega, by go_num, fun j hj => by
                rcases Nat.lt_or_ge j k with h | h
                · exact HA.out j h
                · obtain rfl : j = k := by omega
                  exact Hd.out⟩
              case measure => simp [intOf]; omega
            | false =>
              have He := Lib.hid (good_not H0.out hd)
              have hd4 := dOk_false hd
              clear hd
              generalize hD : x.delta k = d at cd wd hd4
              clear hD
              obtain ⟨q5, q6⟩ := wd
              rcases hd4 with p1 | ⟨p1, p2⟩ | ⟨p1, p2, p3⟩ | ⟨p1, p2, p3, p4⟩
              all_goals
                go_wp2
                go_ret
                exact ⟨by rw [He.out]; rfl, HBel.out⟩
          · obtain rfl : k = 3 := by omega
            have He := Lib.hid (good_all h1 h2 H0.out HA.out)
            go_wp2
            go_ret
            exact ⟨by rw [He.out]; rfl, HBel.out⟩
    · have e : goodB x = false := by simp [goodB, h2]
      rw [e]
      clear e
      go_enter Tryd.func36, Tryd.ntmps36
      go_wp2
      go_ret
      exact ⟨rfl, (Below.refl _ _).alloc (Nat.le_refl _) _⟩
  · have e : goodB x = false := by simp [goodB, h1]
    rw [e]
    clear e
    go_enter Tryd.func36, Tryd.ntmps36
    go_wp2
    go_ret
    exact ⟨rfl, (Below.refl _ _).alloc (Nat.le_refl _) _⟩
end Go.Proofs.YtfcalmjojmfooaaDoor
