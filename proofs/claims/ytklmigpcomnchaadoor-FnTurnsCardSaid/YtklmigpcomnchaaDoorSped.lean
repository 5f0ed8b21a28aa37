/-
  THE REFERENCE's FUNCTIONS Of and Map.
-/
import Derived.Test.YtklmigpcomnchaaDoorSpec
namespace Go.Proofs.YtklmigpcomnchaaDoor
open Go.RowKit

/-- A row under a name of its own, its cells, its bounds. -/
theorem Lst.at_ {w : World} {A : Option Addr} {T : List Row} (h : Lst w A T) {k : Nat} (hk : k < T.length) : ∃ b o x, A = some ⟨b, o, none⟩ ∧ b < w.heap.size ∧ T.getD k z5 = x ∧ x ∈ T ∧
    w.cell? ⟨b, o + k * 5, none⟩ = some (.int .u32 x.lo) ∧ w.cell? ⟨b, o + k * 5 + 1, none⟩ = some (.int .u32 x.hi) ∧ w.cell? ⟨b, o + k * 5 + 2, none⟩ = some (.int .i32 x.d0) ∧ w.cell? ⟨b, o + k * 5 + 3, none⟩ = some (.int .i32 x.d1) ∧ w.cell? ⟨b, o + k * 5 + 4, none⟩ = some (.int .i32 x.d2) := by
  obtain ⟨b, o, rfl, hlt, hc⟩ := h (by omega)
  exact ⟨b, o, _, rfl, hlt, rfl, getD_mem hk, hc k hk⟩
/-- None of the first k rows has r. -/
def noneHas (T : List Row) (r : Int) (k : Nat) : Prop := ∀ j, j < k → (T.getD j z5).has r = false
theorem noneHas.snoc {T : List Row} {r : Int} {k : Nat} (h : noneHas T r k) (hk : (T.getD k z5).has r = false) : noneHas T r (k + 1) := fun j hj => by
  rcases Nat.lt_or_ge j k with h' | h'
  · exact h j h'
  · obtain rfl : j = k := by omega
    exact hk

set_option maxHeartbeats 1000000 in
theorem of_any (A : Option Addr) (c : Nat) (T : List Row) (r : Int) (w : World) (h : Lst w A T) (hwf : Wf T) (hlen : T.length ≤ 7036874417766) (hr1 : -2147483648 ≤ r) (hr2 : r ≤ 2147483647) :
    Calls Tryd.prog 10 #[.slice A T.length c, .int .i32 r] w fun e w' => e = .returned (.int .i64 (ofI T r)) ∧ w = w' := by
  have HW := Lib.hid hwf
  clear hwf
  go_enter Tryd.func10, Tryd.ntmps10
  go_wp2
  go_loop [5] (fun s5 => ∃ k : Nat, k ≤ T.length ∧ s5 = .int .i64 k ∧ noneHas T r k) (fun s5 => T.length - (intOf s5).toNat)
  case atStart => exact ⟨0, by omega, rfl, fun j hj => by omega⟩
  case round =>
    obtain ⟨k, hk, rfl, hno⟩ := hrel
    have HN := Lib.hid hno
    clear hno
    by_cases hlt : k < T.length
    · obtain ⟨b, o, x, rfl, hb, hx, hm, c0, c1, -, -, -⟩ := h.at_ hlt
      have hw := HW.out x hm
      have HX := Lib.hid hx
      obtain ⟨w1, w2, w3, w4, -⟩ := hw
      clear hx hm
      by_cases h1 : x.lo ≤ r
      · by_cases h2 : r ≤ x.hi
        · have He : Hid (ofI T r = (k : Int)) := Lib.hid (by
            unfold ofI
            rw [ofN_some hlt (by rw [HX.out]; exact Row.has_iff.2 ⟨h1, h2⟩) HN.out])
          go_wp2
          go_ret
          exact ⟨by rw [He.out]; rfl, rfl⟩
        · have Hn := Lib.hid (HN.out.snoc (by rw [HX.out]; simp [Row.has, h2]))
          go_wp2
          go_round
          case rel => exact ⟨k + 1, by omega, by go_num, Hn.out⟩
          case measure => simp [intOf]; omega
      · have Hn := Lib.hid (HN.out.snoc (by rw [HX.out]; simp [Row.has, h1]))
        go_wp2
        go_round
        case rel => exact ⟨k + 1, by omega, by go_num, Hn.out⟩
        case measure => simp [intOf]; omega
    · obtain rfl : k = T.length := by omega
      have He : Hid (ofI T r = -1) := Lib.hid (by
        unfold ofI
        rw [ofN_none HN.out])
      go_wp2
      go_ret
      exact ⟨by rw [He.out]; rfl, rfl⟩


end Go.Proofs.YtklmigpcomnchaaDoor
