/-
  THE REFERENCE's FUNCTION Stay.
-/
import Derived.Test.YtfcalmjojmfooaaDoorStep
namespace Go.Proofs.YtfcalmjojmfooaaDoor
open Go.RowKit

theorem stay_snoc (T : List Row) (x : Row) : stay (T ++ [x]) = stay T ++ [stay1 x] := by simp [stay]
theorem stay_length (T : List Row) : (stay T).length = T.length := by simp [stay]
theorem wf_stay {T : List Row} (h : Wf T) : Wf (stay T) := fun y hy => by
  obtain ⟨x, hx, rfl⟩ := List.mem_map.1 hy
  obtain ⟨a1, a2, a3, a4, -⟩ := h x hx
  exact ⟨a1, a2, a3, a4, by simp [stay1], by simp [stay1], by simp [stay1], by simp [stay1], by simp [stay1], by simp [stay1]⟩

set_option maxHeartbeats 1000000 in
theorem stay_any (A : Option Addr) (cp : Nat) (T : List Row) (w : World) (h : Lst w A T) (hlen : T.length ≤ 2000000) :
    Calls Tryd.prog 30 #[.slice A T.length cp] w fun e w' => ∃ v, e = .returned v ∧ Own w' w.heap.size 27 v (stay T) ∧ Below w.heap.size w w' := by
  obtain ⟨i0, hi, hz0, hz1, hz2⟩ := info_parts info34
  go_enter Tryd.func30, Tryd.ntmps30
  go_wp2
  go_loopw [3, 4] (fun v s4 wr => ∃ k : Nat, k ≤ T.length ∧ s4 = .int .i64 k ∧ Own wr w.heap.size 27 v (stay (T.take k)) ∧ Below w.heap.size w wr) (fun _ s4 _ => T.length - (intOf s4).toNat)
  case atStart => exact ⟨0, Nat.zero_le _, rfl, Own.made w _ _ (Nat.le_refl _), (Below.refl _ _).alloc (Nat.le_refl _) _⟩
  case round =>
    obtain ⟨k, hk, rfl, hown, hbel⟩ := hrel
    by_cases hlt : k < T.length
    · obtain ⟨b, o, x, rfl, hb, hx, hm, c0, c1, -, -, -⟩ := h.at_ hlt
      have d0 := (hbel.cell (p := ⟨b, o + k * 5, none⟩) hb).trans c0
      have d1 := (hbel.cell (p := ⟨b, o + k * 5 + 1, none⟩) hb).trans c1
      have HT : Hid (stay (T.take (k + 1)) = stay (T.take k) ++ [⟨x.lo, x.hi, 0, 0, 0⟩]) := Lib.hid (by rw [take_snoc hlt, hx, stay_snoc]; rfl)
      have hU : (stay (T.take k)).length = k := by rw [stay_length, List.length_take]; omega
      have HU := Lib.hid hU
      have HO : Hid (Own wr.drew w.heap.size 27 u3 (stay (T.take k))) := Lib.hid hown
      have HB : Hid (Below w.heap.size w wr.drew) := Lib.hid hbel.drew
      have hkz : (k : Int) < (T.length : Int) := by omega
      generalize stay (T.take k) = U at HT HU HO
      clear hx hm c0 c1 h hown hbel hU
      go_wp2
      refine wp_region_any (by kernel_rfl) ?_
      try (change wpAny _ _ _ _ _ _ _ (World.drew _))
      refine wpAny_take (i := 0) (v := ?_) rfl (by kernel_rfl) (by kernel_rfl) (by kernel_rfl) (fun _ _ _ h => h) (Or.inl ⟨by kernel_rfl, ?_⟩) ?_
      rotate_left
      · intro _; go_simp; try (with_reducible rfl)
      refine wpAny_take (i := 1) (v := ?_) rfl (by kernel_rfl) (by kernel_rfl) (by kernel_rfl) (fun _ _ _ h => h) (Or.inl ⟨by kernel_rfl, ?_⟩) ?_
      rotate_left
      · intro _; go_simp; try (with_reducible rfl)
      refine wpAny_take (i := 2) (v := ?_) rfl (by kernel_rfl) (by kernel_rfl) (by kernel_rfl) (fun _ _ _ h => h) (Or.inl ⟨by kernel_rfl, ?_⟩) ?_
      rotate_left
      · intro _; go_simp; try (with_reducible rfl)
      refine wpAny_take (i := 3) (v := ?_) rfl (by kernel_rfl) (by kernel_rfl) (by kernel_rfl) (fun _ _ _ h => h) (Or.inl ⟨by kernel_rfl, ?_⟩) ?_
      rotate_left
      · intro _; go_simp; try (with_reducible rfl)
      refine wpAny_take (i := 4) (v := ?_) rfl (by kernel_rfl) (by kernel_rfl) (by kernel_rfl) (fun _ _ _ h => h) (Or.inl ⟨by kernel_rfl, ?_⟩) ?_
      rotate_left
      · intro _; go_simp; try (with_reducible rfl)
      refine wpAny_take (i := 6) (v := ?_) rfl (by kernel_rfl) (by kernel_rfl) (by kernel_rfl) (fun _ _ _ h => h) (Or.inl ⟨by kernel_rfl, ?_⟩) ?_
      rotate_left
      · intro _; go_simp; try (with_reducible rfl)
      refine wpAny_take (i := 7) (v := ?_) rfl (by kernel_rfl) (by kernel_rfl) (by kernel_rfl) (fun _ _ _ h => h) (Or.inl ⟨by kernel_rfl, ?_⟩) ?_
      rotate_left
      · intro _; go_simp; try (with_reducible rfl)
      refine wpAny_take (i := 8) (v := ?_) rfl (by kernel_rfl) (by kernel_rfl) (by kernel_rfl) (fun _ _ _ h => h) (Or.inl ⟨by kernel_rfl, ?_⟩) ?_
      rotate_left
      · intro _; go_simp; try (with_reducible rfl)
      refine wpAny_take (i := 9) (v := ?_) rfl (by kernel_rfl) (by kernel_rfl) (by kernel_rfl) (fun _ _ _ h => h) (Or.inl ⟨by kernel_rfl, ?_⟩) ?_
      rotate_left
      · intro _; go_simp; try (with_reducible rfl)
      refine wpAny_ready (rs := [5, 10]) (by kernel_rfl) (by simp) ?_
      refine AllReady.cons rfl (fun K hK => ?_) (AllReady.cons rfl (fun K hK => ?_) AllReady.nil)
      · go_simp
        refine hK _ _ ?_
        clear hK K
        refine wpAny_ready (rs := [10]) (by kernel_rfl) (by simp) ?_
        refine AllReady.cons rfl (fun K hK => ?_) AllReady.nil
        go_simp
        refine hK _ _ ?_
        clear hK K d0 d1
        refine wpAny_take (i := 11) (v := ?_) rfl (by kernel_rfl) (by kernel_rfl) (by kernel_rfl) (fun _ _ _ h => h) (Or.inl ⟨by kernel_rfl, ?_⟩) ?_
        rotate_left
        · intro _; go_simp; try (with_reducible rfl)
        refine wpAny_ready (rs := [12]) (by kernel_rfl) (by simp) ?_
        refine AllReady.cons rfl (fun K hK => ?_) AllReady.nil
        go_simp
        refine hK _ _ ?_
        clear hK K
        refine wpAny_ready (rs := [13]) (by kernel_rfl) (by simp) ?_
        refine AllReady.cons rfl (fun K hK => ?_) AllReady.nil
        refine step_append_own _ rfl (.tmp 12) (.tmp 24) 28 rfl w.heap.size 27 i0 _ 5 20 Tryd.underlying28 hi hz0 hz1 hz2 rfl (by decide) u3 U.length (flat U) rfl (HO.out.1.alloc _) ⟨wr.heap.size, 0, none⟩ 1 1 (Row.cells ⟨x.lo, x.hi, 0, 0, 0⟩) rfl rfl (news_of (cell_new5 _ ⟨x.lo, x.hi, 0, 0, 0⟩ _ _ rfl)) (cells_one _) (by rw [HU.out]; unfold maxLen; omega) (by rw [HU.out]; omega) (Nat.le_trans HB.out.size (by simp)) ?_
        intro v2 w2 hown2 hgrow2 hnil2
        have HR1 : Hid (Own w2 w.heap.size 27 v2 (stay (T.take (k + 1)))) := Lib.hid (by
          rw [HT.out]
          exact Own.grow (by simpa using hnil2) rfl hown2)
        have HR2 : Hid (Below w.heap.size w w2) := Lib.hid ((HB.out.alloc HB.out.size _).grown hgrow2 (Nat.le_trans HB.out.size (by simp)) (fun g hg => (HO.out.1.lt g hg).1))
        clear hown2 hgrow2 hnil2
        refine hK _ _ ?_
        clear hK K
        refine wpAny_take (i := 14) (v := ?_) rfl (by kernel_rfl) (by kernel_rfl) (by kernel_rfl) (fun _ _ _ h => h) (Or.inl ⟨by kernel_rfl, ?_⟩) ?_
        rotate_left
        · intro _; go_simp; try (with_reducible rfl)
        refine wpAny_done (by kernel_rfl) ?_ _
        go_wp2
        go_roundw
        case rel => exact ⟨k + 1, by omega, by go_num, HR1.out, HR2.out⟩
        case measure => simp [intOf]; omega
      · go_simp
        refine hK _ _ ?_
        clear hK K
        refine wpAny_ready (rs := [5]) (by kernel_rfl) (by simp) ?_
        refine AllReady.cons rfl (fun K hK => ?_) AllReady.nil
        go_simp
        refine hK _ _ ?_
        clear hK K d0 d1
        refine wpAny_take (i := 11) (v := ?_) rfl (by kernel_rfl) (by kernel_rfl) (by kernel_rfl) (fun _ _ _ h => h) (Or.inl ⟨by kernel_rfl, ?_⟩) ?_
        rotate_left
        · intro _; go_simp; try (with_reducible rfl)
        refine wpAny_ready (rs := [12]) (by kernel_rfl) (by simp) ?_
        refine AllReady.cons rfl (fun K hK => ?_) AllReady.nil
        go_simp
        refine hK _ _ ?_
        clear hK K
        refine wpAny_ready (rs := [13]) (by kernel_rfl) (by simp) ?_
        refine AllReady.cons rfl (fun K hK => ?_) AllReady.nil
        refine step_append_own _ rfl (.tmp 12) (.tmp 24) 28 rfl w.heap.size 27 i0 _ 5 20 Tryd.underlying28 hi hz0 hz1 hz2 rfl (by decide) u3 U.length (flat U) rfl (HO.out.1.alloc _) ⟨wr.heap.size, 0, none⟩ 1 1 (Row.cells ⟨x.lo, x.hi, 0, 0, 0⟩) rfl rfl (news_of (cell_new5 _ ⟨x.lo, x.hi, 0, 0, 0⟩ _ _ rfl)) (cells_one _) (by rw [HU.out]; unfold maxLen; omega) (by rw [HU.out]; omega) (Nat.le_trans HB.out.size (by simp)) ?_
        intro v2 w2 hown2 hgrow2 hnil2
        have HR1 : Hid (Own w2 w.heap.size 27 v2 (stay (T.take (k + 1)))) := Lib.hid (by
          rw [HT.out]
          exact Own.grow (by simpa using hnil2) rfl hown2)
        have HR2 : Hid (Below w.heap.size w w2) := Lib.hid ((HB.out.alloc HB.out.size _).grown hgrow2 (Nat.le_trans HB.out.size (by simp)) (fun g hg => (HO.out.1.lt g hg).1))
        clear hown2 hgrow2 hnil2
        refine hK _ _ ?_
        clear hK K
        refine wpAny_take (i := 14) (v := ?_) rfl (by kernel_rfl) (by kernel_rfl) (by kernel_rfl) (fun _ _ _ h => h) (Or.inl ⟨by kernel_rfl, ?_⟩) ?_
        rotate_left
        · intro _; go_simp; try (with_reducible rfl)
        refine wpAny_done (by kernel_rfl) ?_ _
        go_wp2
        go_roundw
        case rel => exact ⟨k + 1, by omega, by go_num, HR1.out, HR2.out⟩
        case measure => simp [intOf]; omega
    · obtain rfl : k = T.length := by omega
      rw [List.take_length] at hown
      have HO := Lib.hid hown
      have HB := Lib.hid hbel
      clear hown hbel
      go_wp2
      go_ret
      exact ⟨_, rfl, HO.out, HB.out⟩
end Go.Proofs.YtfcalmjojmfooaaDoor
