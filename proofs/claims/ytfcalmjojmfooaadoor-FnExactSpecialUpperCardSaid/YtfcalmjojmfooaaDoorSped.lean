/-
  THE REFERENCE's FUNCTIONS Of and Map.
-/
import Derived.Test.YtfcalmjojmfooaaDoorSpec
namespace Go.Proofs.YtfcalmjojmfooaaDoor
open Go.RowKit

/-- A row under a name of its own, its cells, its bounds. -/
theorem Lst.at_ {w : World} {A : Option Addr} {T : List Row} (h : Lst w A T) {k : Nat} (hk : k < T.length) : ∃ b o x, A = some ⟨b, o, none⟩ ∧ b < w.heap.size ∧ T.getD k z5 = x ∧ x ∈ T ∧
    w.cell? ⟨b, o + k * 5, none⟩ = some (.int .u32 x.lo) ∧ w.cell? ⟨b, o + k * 5 + 1, none⟩ = some (.int .u32 x.hi) ∧ w.cell? ⟨b, o + k * 5 + 2, none⟩ = some (.int .i32 x.d0) ∧ w.cell? ⟨b, o + k * 5 + 3, none⟩ = some (.int .i32 x.d1) ∧ w.cell? ⟨b, o + k * 5 + 4, none⟩ = some (.int .i32 x.d2) := by
  obtain ⟨b, o, rfl, hlt, hc⟩ := h (by omega)
  exact ⟨b, o, _, rfl, hlt, rfl, getD_mem hk, hc k hk⟩
/-- None of the first k rows has r. -/
def noneHas (T : List Row) (r : Int) (k : Nat) : Prop := ∀ j, j < k → (T.getD j z5).has r = false
theorem noneHas.snoc {T : List Row} {r : Int} {k : Nat} (h : noneHas T r k) (hk : (T.getD k z5).has r = false) : noneHas T r (k + 1) := fun j hj => by
  rcases Nat.lt_or_ge j k with h' | h'
  · exact h j h'
  · obtain rfl : j = k := by omega
    exact hk

set_option maxHeartbeats 1000000 in
theorem of_any (A : Option Addr) (c : Nat) (T : List Row) (r : Int) (w : World) (h : Lst w A T) (hwf : Wf T) (hlen : T.length ≤ 7036874417766) (hr1 : -2147483648 ≤ r) (hr2 : r ≤ 2147483647) :
    Calls Tryd.prog 21 #[.slice A T.length c, .int .i32 r] w fun e w' => e = .returned (.int .i64 (ofI T r)) ∧ w = w' := by
  have HW := Lib.hid hwf
  clear hwf
  go_enter Tryd.func21, Tryd.ntmps21
  go_wp2
  go_loop [5] (fun s5 => ∃ k : Nat, k ≤ T.length ∧ s5 = .int .i64 k ∧ noneHas T r k) (fun s5 => T.length - (intOf s5).toNat)
  case atStart => exact ⟨0, by omega, rfl, fun j hj => by omega⟩
  case round =>
    obtain ⟨k, hk, rfl, hno⟩ := hrel
    have HN := Lib.hid hno
    clear hno
    by_cases hlt : k < T.length
    · obtain ⟨b, o, x, rfl, hb, hx, hm, c0, c1, -, -, -⟩ := h.at_ hlt
      have hw := HW.out x hm
      have HX := Lib.hid hx
      obtain ⟨w1, w2, w3, w4, -⟩ := hw
      clear hx hm
      by_cases h1 : x.lo ≤ r
      · by_cases h2 : r ≤ x.hi
        · have He : Hid (ofI T r = (k : Int)) := Lib.hid (by
            unfold ofI
            rw [ofN_some hlt (by rw [HX.out]; exact Row.has_iff.2 ⟨h1, h2⟩) HN.out])
          go_wp2
          go_ret
          exact ⟨by rw [He.out]; rfl, rfl⟩
        · have Hn := Lib.hid (HN.out.snoc (by rw [HX.out]; simp [Row.has, h2]))
          go_wp2
          go_round
          case rel => exact ⟨k + 1, by omega, by go_num, Hn.out⟩
          case measure => simp [intOf]; omega
      · have Hn := Lib.hid (HN.out.snoc (by rw [HX.out]; simp [Row.has, h1]))
        go_wp2
        go_round
        case rel => exact ⟨k + 1, by omega, by go_num, Hn.out⟩
        case measure => simp [intOf]; omega
    · obtain rfl : k = T.length := by omega
      have He : Hid (ofI T r = -1) := Lib.hid (by
        unfold ofI
        rw [ofN_none HN.out])
      go_wp2
      go_ret
      exact ⟨by rw [He.out]; rfl, rfl⟩

/-- What Map answers. -/
def mapT (T : List Row) (r : Int) (c : Nat) : Value × Bool := match ofN T r with | some i => (.int .i32 (mapV (T.getD i z5) r c), true) | none => (.int .i32 0, false)
theorem load5 (w : World) {w1 : World} {b o : Nat} {x : Row} (hb : Below w.heap.size w w1) (hlt : b < w.heap.size)
    (c0 : w.cell? ⟨b, o, none⟩ = some (.int .u32 x.lo)) : w1.cell? ⟨b, o, none⟩ = some (.int .u32 x.lo) := (hb.cell (p := ⟨b, o, none⟩) hlt).trans c0

set_option maxHeartbeats 1000000 in
theorem map_any (A : Option Addr) (cp : Nat) (T : List Row) (r : Int) (c : Nat) (hc : c < 3) (w : World) (h : Lst w A T) (hwf : Wf T) (hv : validB T = true) (hr1 : -2147483648 ≤ r) (hr2 : r ≤ 2147483647) :
    Calls Tryd.prog 23 #[.slice A T.length cp, .int .i32 r, .int .i64 c] w fun e w' => e = .returned (.tuple #[(mapT T r c).1, .bool (mapT T r c).2]) ∧ Below w.heap.size w w' := by
  have hs := valid_srt hwf hv
  have hl := srt_length hs
  have cO := of_any A cp T r w h hwf (by omega) hr1 hr2
  unfold ofI at cO
  unfold mapT
  cases hi : ofN T r with
  | none =>
    rw [hi] at cO
    simp only at cO ⊢
    have HO := Lib.hid cO
    clear cO hi hs hwf hv
    go_enter Tryd.func23, Tryd.ntmps23
    go_wp2_with fail
    refine HO.out.mono ?_
    rintro e w' ⟨rfl, rfl⟩
    go_wp2
    go_ret2
    exact ⟨rfl, Below.refl _ _⟩
  | some i =>
    rw [hi] at cO
    simp only at cO ⊢
    obtain ⟨hil, hh⟩ := ofN_get hi
    obtain ⟨b, o, x, rfl, hb, hx, hm, c0, c1, c2, c3, c4⟩ := h.at_ hil
    rw [hx] at hh ⊢
    have hg := valid_good hv hm
    have hok := good_ok (hwf x hm) hg
    have hwx := hwf x hm
    obtain ⟨-, v1, v2⟩ := conv_map hok hg hh hc
    rw [Row.has_iff] at hh
    obtain ⟨g1, g2⟩ := hh
    obtain ⟨k1, k2, k3⟩ := hok
    have HO := Lib.hid cO
    have cB := byTurns_two x (w.alloc x.blk)
    by_cases hbt : byT x = true
    · have e : mapV x r c = r - (r - x.lo) % 2 + (if c = 1 then 1 else 0) := by unfold mapV; rw [if_pos hbt]
      rw [hbt] at cB
      have HB := Lib.hid cB
      by_cases hc1 : c = 1
      · rw [if_pos hc1] at e
        rw [e]
        rw [e] at v1 v2
        have hcb : ((c : Int) == 1) = true := by simp [hc1]
        clear cO cB e hbt hg hwx hi hx hm hs hwf hv h hc1
        go_enter Tryd.func23, Tryd.ntmps23
        go_wp2_with fail
        refine HO.out.mono ?_
        rintro e w' ⟨rfl, rfl⟩
        go_wp2_with fail
        refine HB.out.mono ?_
        rintro e wa ⟨rfl, hbel⟩
        simp only [World.size_alloc] at hbel
        obtain ⟨q0, q1, -⟩ := box_cells x w hbel
        have HBel : Hid (Below w.heap.size w wa) := Lib.hid (((Below.refl w.heap.size w).alloc (Nat.le_refl _) x.blk).trans (hbel.mono (by omega)))
        clear hbel
        go_wp2
        go_ret2
        exact ⟨rfl, HBel.out⟩
      · rw [if_neg hc1, Int.add_zero] at e
        rw [e]
        rw [e] at v1 v2
        have hcb : ((c : Int) == 1) = false := by simp; omega
        clear cO cB e hbt hg hwx hi hx hm hs hwf hv h
        go_enter Tryd.func23, Tryd.ntmps23
        go_wp2_with fail
        refine HO.out.mono ?_
        rintro e w' ⟨rfl, rfl⟩
        go_wp2_with fail
        refine HB.out.mono ?_
        rintro e wa ⟨rfl, hbel⟩
        simp only [World.size_alloc] at hbel
        obtain ⟨q0, q1, -⟩ := box_cells x w hbel
        have HBel : Hid (Below w.heap.size w wa) := Lib.hid (((Below.refl w.heap.size w).alloc (Nat.le_refl _) x.blk).trans (hbel.mono (by omega)))
        clear hbel
        go_wp2
        go_ret2
        exact ⟨rfl, HBel.out⟩
    · have e : mapV x r c = r + x.delta c := by unfold mapV; rw [if_neg hbt]
      have hbf : byT x = false := by simpa using hbt
      rw [hbf] at cB
      have HB := Lib.hid cB
      rw [e]
      rw [e] at v1 v2
      have hcz : (c : Int) < 3 := by omega
      have hc0 : (0 : Int) ≤ (c : Int) := by omega
      clear cO cB e hbt hbf hg hwx hi hx hm hs hwf hv h
      go_enter Tryd.func23, Tryd.ntmps23
      go_wp2_with fail
      refine HO.out.mono ?_
      rintro e w' ⟨rfl, rfl⟩
      go_wp2_with fail
      refine HB.out.mono ?_
      rintro e wa ⟨rfl, hbel⟩
      simp only [World.size_alloc] at hbel
      obtain ⟨q0, q1, qD⟩ := box_cells x w hbel
      have qd := qD c hc
      have HBel : Hid (Below w.heap.size w wa) := Lib.hid (((Below.refl w.heap.size w).alloc (Nat.le_refl _) x.blk).trans (hbel.mono (by omega)))
      clear hbel qD
      go_wp2
      go_ret2
      exact ⟨rfl, HBel.out⟩
end Go.Proofs.YtfcalmjojmfooaaDoor
