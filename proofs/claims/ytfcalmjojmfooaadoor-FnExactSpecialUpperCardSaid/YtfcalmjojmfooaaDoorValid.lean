/-
  THE REFERENCE's FUNCTION Valid.
-/
import Derived.Test.YtfcalmjojmfooaaDoorSped
import Derived.StillTailTactics
namespace Go.Proofs.YtfcalmjojmfooaaDoor
open Go.RowKit

theorem stepB_not {T : List Row} {k : Nat} {x : Row} (hx : T.getD k z5 = x) (h : goodB x = false) : stepB T k = false := by unfold stepB; rw [hx, h]; rfl
theorem stepB_zero {T : List Row} {k : Nat} {x : Row} (hk : k = 0) (hx : T.getD k z5 = x) (h : goodB x = true) : stepB T k = true := by unfold stepB; rw [hx, h, hk]; rfl
theorem stepB_yes {T : List Row} {k : Nat} {x y : Row} (hx : T.getD k z5 = x) (hy : T.getD (k - 1) z5 = y) (h : goodB x = true) (hl : y.hi < x.lo) : stepB T k = true := by
  unfold stepB
  rw [hx, hy, h]
  simp [hl]
theorem stepB_no {T : List Row} {k : Nat} {x y : Row} (hx : T.getD k z5 = x) (hy : T.getD (k - 1) z5 = y) (hk : 0 < k) (hl : x.lo ≤ y.hi) : stepB T k = false := by
  unfold stepB
  rw [hx, hy]
  have h1 : ¬ k = 0 := by omega
  have h2 : ¬ y.hi < x.lo := by omega
  simp [h1, h2]
def stepAll (T : List Row) (k : Nat) : Prop := ∀ j, j < k → stepB T j = true
theorem stepAll.snoc {T : List Row} {k : Nat} (h : stepAll T k) (hk : stepB T k = true) : stepAll T (k + 1) := fun j hj => by
  rcases Nat.lt_or_ge j k with h' | h'
  · exact h j h'
  · obtain rfl : j = k := by omega
    exact hk
theorem below_undrew {B : Nat} {w w' : World} (h : Below B w.drew w') : Below B w w' := ⟨h.os, h.tape, h.output, h.size, h.block⟩
theorem ite_no {c : Prop} [Decidable c] {p q : Prop} (h : ¬ c) (hq : q) : if c then p else q := by rw [if_neg h]; exact hq
/-- The rest of a region that draws its order, from operation n on, where that rest only reads: one walk in the order of the text. -/
theorem wpAny_rest {P : Program} {md : Region.Mode} {L : List Oper} {n fuel : Nat} {listed : Array Bool} {a : Act} {w : World} {Q : Exit → Act → World → Prop} (hs : Region.noSelect L.toArray = true) (hf : (L.drop n).length = fuel)
    (hB : Region.lexFrom md L.toArray (L.drop n).length n listed = true) (h : wpStill P L.toArray w (fun a' => Q .normal a' w) (L.drop n) a) : wpAny P md L.toArray Q fuel listed a w := by
  subst hf
  exact wpAny_of_still (fun _ h => h) _ _ _ (wpAnyS_lex hs (L.drop n) n listed a (by simp) hB h)

set_option maxHeartbeats 2000000 in
theorem valid_any (A : Option Addr) (cp : Nat) (T : List Row) (w : World) (h : Lst w A T) (hwf : Wf T) (hlen : T.length ≤ 7036874417766) :
    Calls Tryd.prog 17 #[.slice A T.length cp] w fun e w' => e = .returned (.bool (validB T)) ∧ Below w.heap.size w w' := by
  have HW := Lib.hid hwf
  clear hwf
  go_enter Tryd.func17, Tryd.ntmps17
  go_wp2
  go_loopw [3] (fun s3 wr => ∃ k : Nat, k ≤ T.length ∧ s3 = .int .i64 k ∧ stepAll T k ∧ Below w.heap.size w wr) (fun s3 _ => T.length - (intOf s3).toNat)
  case atStart => exact ⟨0, by omega, rfl, fun j hj => by omega, Below.refl _ _⟩
  case round =>
    obtain ⟨k, hk, rfl, hall, hbel⟩ := hrel
    have HA := Lib.hid hall
    have HB := Lib.hid hbel
    by_cases hlt : k < T.length
    · obtain ⟨b, o, rfl, hb, hc⟩ := h (by omega)
      have hcr := hc.below hbel hb
      have hbr : b < wr.heap.size := Nat.lt_of_lt_of_le hb hbel.size
      obtain ⟨c0, c1, c2, c3, c4⟩ := hcr k hlt
      obtain ⟨-, cp1, -, -, -⟩ := hcr (k - 1) (by omega)
      obtain ⟨x, hx⟩ : ∃ x, T.getD k z5 = x := ⟨_, rfl⟩
      obtain ⟨y, hy⟩ : ∃ y, T.getD (k - 1) z5 = y := ⟨_, rfl⟩
      have hwx : x.wf := hx ▸ HW.out _ (getD_mem hlt)
      have hwy : y.wf := hy ▸ HW.out _ (getD_mem (by omega))
      rw [hx] at c0 c1 c2 c3 c4
      rw [hy] at cp1
      have HX := Lib.hid hx
      have HY := Lib.hid hy
      obtain ⟨x1, x2, -⟩ := id hwx
      obtain ⟨-, -, y1, y2, -⟩ := hwy
      clear hall hbel h hc hcr hx hy
      cases hg : goodB x with
      | false =>
        have He := Lib.hid (invalid_at k hlt (stepB_not HX.out hg))
        have HG : Hid (∀ W, Calls Tryd.prog 36 #[x.val] W fun e w' => e = .returned (.bool false) ∧ Below W.heap.size W w') := Lib.hid fun W => by
          have := goodRange_any x W hwx
          rwa [hg] at this
        clear hg hwx
        go_wp2
        refine wp_region_any (by kernel_rfl) ?_
        try (change wpAny _ _ _ _ _ _ _ (World.drew _))
        refine wpAny_take (i := 0) (v := ?_) rfl (by kernel_rfl) (by kernel_rfl) (by kernel_rfl) (fun _ _ _ h => h) (Or.inl ⟨by kernel_rfl, ?_⟩) ?_
        rotate_left
        · intro _; go_simp; try (with_reducible rfl)
        refine wpAny_take (i := 1) (v := ?_) rfl (by kernel_rfl) (by kernel_rfl) (by kernel_rfl) (fun _ _ _ h => h) (Or.inl ⟨by kernel_rfl, ?_⟩) ?_
        rotate_left
        · intro _; go_simp; try (with_reducible rfl)
        refine wpAny_take (i := 2) (v := ?_) rfl (by kernel_rfl) (by kernel_rfl) (by kernel_rfl) (fun _ _ _ h => h) (Or.inl ⟨by kernel_rfl, ?_⟩) ?_
        rotate_left
        · intro _; go_simp; try (with_reducible rfl)
        refine wpAny_ready (rs := [3]) (by kernel_rfl) (by simp) ?_
        refine AllReady.cons rfl (fun K hK => ?_) AllReady.nil
        go_simp
        refine hK _ _ ?_
        clear hK K
        refine wpAny_ready (rs := [4]) (by kernel_rfl) (by simp) ?_
        refine AllReady.cons rfl (fun K hK => ?_) AllReady.nil
        go_simp
        go_wp2_with fail
        refine (HG.out _).mono ?_
        rintro e w1 ⟨rfl, hb1⟩
        simp only
        have e0 := (hb1.cell (p := ⟨b, o + k * 5, none⟩) hbr).trans c0
        have e1 := (hb1.cell (p := ⟨b, o + (k - 1) * 5 + 1, none⟩) hbr).trans cp1
        have HB1 : Hid (Below w.heap.size w w1) := Lib.hid (HB.out.trans ((below_undrew hb1).mono HB.out.size))
        clear hb1
        refine hK _ _ ?_
        clear hK K
        refine wpAny_rest (n := 5) (by kernel_rfl) (by kernel_rfl) (by kernel_rfl) ?_
        simp only [List.drop_succ_cons, List.drop_zero]
        iterate 19
          with_reducible refine wpStill_step (fun K hK => ?_)
          go_simp
          first | with_reducible refine ite_no (by decide) (hK _ ?_) | with_reducible refine hK _ ?_
          clear hK K
        with_reducible refine wpStill_nil ?_
        go_wp2
        go_ret
        exact ⟨by rw [He.out]; rfl, HB1.out⟩
      | true =>
        have HG : Hid (∀ W, Calls Tryd.prog 36 #[x.val] W fun e w' => e = .returned (.bool true) ∧ Below W.heap.size W w') := Lib.hid fun W => by
          have := goodRange_any x W hwx
          rwa [hg] at this
        by_cases hk0 : k = 0
        · have Hs := Lib.hid (stepB_zero hk0 HX.out hg)
          have hd0 : decide (0 < k) = false := by simp; omega
          clear hg hwx hk0
          go_wp2
          refine wp_region_any (by kernel_rfl) ?_
          try (change wpAny _ _ _ _ _ _ _ (World.drew _))
          refine wpAny_take (i := 0) (v := ?_) rfl (by kernel_rfl) (by kernel_rfl) (by kernel_rfl) (fun _ _ _ h => h) (Or.inl ⟨by kernel_rfl, ?_⟩) ?_
          rotate_left
          · intro _; go_simp; try (with_reducible rfl)
          refine wpAny_take (i := 1) (v := ?_) rfl (by kernel_rfl) (by kernel_rfl) (by kernel_rfl) (fun _ _ _ h => h) (Or.inl ⟨by kernel_rfl, ?_⟩) ?_
          rotate_left
          · intro _; go_simp; try (with_reducible rfl)
          refine wpAny_take (i := 2) (v := ?_) rfl (by kernel_rfl) (by kernel_rfl) (by kernel_rfl) (fun _ _ _ h => h) (Or.inl ⟨by kernel_rfl, ?_⟩) ?_
          rotate_left
          · intro _; go_simp; try (with_reducible rfl)
          refine wpAny_ready (rs := [3]) (by kernel_rfl) (by simp) ?_
          refine AllReady.cons rfl (fun K hK => ?_) AllReady.nil
          go_simp
          refine hK _ _ ?_
          clear hK K
          refine wpAny_ready (rs := [4]) (by kernel_rfl) (by simp) ?_
          refine AllReady.cons rfl (fun K hK => ?_) AllReady.nil
          go_simp
          go_wp2_with fail
          refine (HG.out _).mono ?_
          rintro e w1 ⟨rfl, hb1⟩
          simp only
          have e0 := (hb1.cell (p := ⟨b, o + k * 5, none⟩) hbr).trans c0
          have e1 := (hb1.cell (p := ⟨b, o + (k - 1) * 5 + 1, none⟩) hbr).trans cp1
          have HB1 : Hid (Below w.heap.size w w1) := Lib.hid (HB.out.trans ((below_undrew hb1).mono HB.out.size))
          clear hb1
          refine hK _ _ ?_
          clear hK K
          refine wpAny_rest (n := 5) (by kernel_rfl) (by kernel_rfl) (by kernel_rfl) ?_
          simp only [List.drop_succ_cons, List.drop_zero]
          iterate 19
            with_reducible refine wpStill_step (fun K hK => ?_)
            go_simp
            first | with_reducible refine ite_no (by decide) (hK _ ?_) | with_reducible refine hK _ ?_
            clear hK K
          with_reducible refine wpStill_nil ?_
          go_wp2
          go_roundw
          case rel => exact ⟨k + 1, by omega, by go_num, HA.out.snoc Hs.out, HB1.out⟩
          case measure => simp [intOf]; omega
        · have hd0 : 0 < k := by omega
          have hk1 : (1 : Int) ≤ (k : Int) := by omega
          have hk3 : (0 : Int) ≤ (k : Int) - 1 := by omega
          have hk4 : (k : Int) - 1 < (T.length : Int) := by omega
          have hk5 : IntKind.i64.wrap ((k : Int) - 1) = (k : Int) - 1 := IntWalk.i64_in _ (by omega)
          have hk2 : ((k : Int) - 1).toNat = k - 1 := by omega
          by_cases hl : y.hi < x.lo
          · have Hs := Lib.hid (stepB_yes HX.out HY.out hg hl)
            have hdl : decide (x.lo ≤ y.hi) = false := by simp; omega
            clear hg hwx
            go_wp2
            refine wp_region_any (by kernel_rfl) ?_
            try (change wpAny _ _ _ _ _ _ _ (World.drew _))
            refine wpAny_take (i := 0) (v := ?_) rfl (by kernel_rfl) (by kernel_rfl) (by kernel_rfl) (fun _ _ _ h => h) (Or.inl ⟨by kernel_rfl, ?_⟩) ?_
            rotate_left
            · intro _; go_simp; try (with_reducible rfl)
            refine wpAny_take (i := 1) (v := ?_) rfl (by kernel_rfl) (by kernel_rfl) (by kernel_rfl) (fun _ _ _ h => h) (Or.inl ⟨by kernel_rfl, ?_⟩) ?_
            rotate_left
            · intro _; go_simp; try (with_reducible rfl)
            refine wpAny_take (i := 2) (v := ?_) rfl (by kernel_rfl) (by kernel_rfl) (by kernel_rfl) (fun _ _ _ h => h) (Or.inl ⟨by kernel_rfl, ?_⟩) ?_
            rotate_left
            · intro _; go_simp; try (with_reducible rfl)
            refine wpAny_ready (rs := [3]) (by kernel_rfl) (by simp) ?_
            refine AllReady.cons rfl (fun K hK => ?_) AllReady.nil
            go_simp
            refine hK _ _ ?_
            clear hK K
            refine wpAny_ready (rs := [4]) (by kernel_rfl) (by simp) ?_
            refine AllReady.cons rfl (fun K hK => ?_) AllReady.nil
            go_simp
            go_wp2_with fail
            refine (HG.out _).mono ?_
            rintro e w1 ⟨rfl, hb1⟩
            simp only
            have e0 := (hb1.cell (p := ⟨b, o + k * 5, none⟩) hbr).trans c0
            have e1 := (hb1.cell (p := ⟨b, o + (k - 1) * 5 + 1, none⟩) hbr).trans cp1
            have HB1 : Hid (Below w.heap.size w w1) := Lib.hid (HB.out.trans ((below_undrew hb1).mono HB.out.size))
            clear hb1
            refine hK _ _ ?_
            clear hK K
            refine wpAny_rest (n := 5) (by kernel_rfl) (by kernel_rfl) (by kernel_rfl) ?_
            simp only [List.drop_succ_cons, List.drop_zero]
            iterate 19
              with_reducible refine wpStill_step (fun K hK => ?_)
              go_simp
              first | with_reducible refine ite_no (by decide) (hK _ ?_) | with_reducible refine hK _ ?_
              clear hK K
            with_reducible refine wpStill_nil ?_
            go_wp2
            go_roundw
            case rel => exact ⟨k + 1, by omega, by go_num, HA.out.snoc Hs.out, HB1.out⟩
            case measure => simp [intOf]; omega
          · have He := Lib.hid (invalid_at k hlt (stepB_no HX.out HY.out (by omega) (by omega)))
            have hdl : decide (x.lo ≤ y.hi) = true := by simp; omega
            clear hg hwx
            go_wp2
            refine wp_region_any (by kernel_rfl) ?_
            try (change wpAny _ _ _ _ _ _ _ (World.drew _))
            refine wpAny_take (i := 0) (v := ?_) rfl (by kernel_rfl) (by kernel_rfl) (by kernel_rfl) (fun _ _ _ h => h) (Or.inl ⟨by kernel_rfl, ?_⟩) ?_
            rotate_left
            · intro _; go_simp; try (with_reducible rfl)
            refine wpAny_take (i := 1) (v := ?_) rfl (by kernel_rfl) (by kernel_rfl) (by kernel_rfl) (fun _ _ _ h => h) (Or.inl ⟨by kernel_rfl, ?_⟩) ?_
            rotate_left
            · intro _; go_simp; try (with_reducible rfl)
            refine wpAny_take (i := 2) (v := ?_) rfl (by kernel_rfl) (by kernel_rfl) (by kernel_rfl) (fun _ _ _ h => h) (Or.inl ⟨by kernel_rfl, ?_⟩) ?_
            rotate_left
            · intro _; go_simp; try (with_reducible rfl)
            refine wpAny_ready (rs := [3]) (by kernel_rfl) (by simp) ?_
            refine AllReady.cons rfl (fun K hK => ?_) AllReady.nil
            go_simp
            refine hK _ _ ?_
            clear hK K
            refine wpAny_ready (rs := [4]) (by kernel_rfl) (by simp) ?_
            refine AllReady.cons rfl (fun K hK => ?_) AllReady.nil
            go_simp
            go_wp2_with fail
            refine (HG.out _).mono ?_
            rintro e w1 ⟨rfl, hb1⟩
            simp only
            have e0 := (hb1.cell (p := ⟨b, o + k * 5, none⟩) hbr).trans c0
            have e1 := (hb1.cell (p := ⟨b, o + (k - 1) * 5 + 1, none⟩) hbr).trans cp1
            have HB1 : Hid (Below w.heap.size w w1) := Lib.hid (HB.out.trans ((below_undrew hb1).mono HB.out.size))
            clear hb1
            refine hK _ _ ?_
            clear hK K
            refine wpAny_rest (n := 5) (by kernel_rfl) (by kernel_rfl) (by kernel_rfl) ?_
            simp only [List.drop_succ_cons, List.drop_zero]
            iterate 19
              with_reducible refine wpStill_step (fun K hK => ?_)
              go_simp
              first | with_reducible refine ite_no (by decide) (hK _ ?_) | with_reducible refine hK _ ?_
              clear hK K
            with_reducible refine wpStill_nil ?_
            go_wp2
            go_ret
            exact ⟨by rw [He.out]; rfl, HB1.out⟩
    · obtain rfl : k = T.length := by omega
      have He := Lib.hid (valid_all HA.out)
      clear hall hbel
      go_wp2
      go_ret
      exact ⟨by rw [He.out]; rfl, HB.out⟩
end Go.Proofs.YtfcalmjojmfooaaDoor
