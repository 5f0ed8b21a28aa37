/-
  THE REFERENCE's FUNCTION Count.
-/
import Derived.Test.YtfcalmjojmfooaaDoorCut
namespace Go.Proofs.YtfcalmjojmfooaaDoor
open Go.RowKit

theorem countI_snoc (T : List Row) (x : Row) : countI (T ++ [x]) = countI T + (x.hi - x.lo + 1) := by simp [countI]
theorem countI_bd : ∀ {T : List Row}, (∀ x ∈ T, x.ok) → 0 ≤ countI T ∧ countI T ≤ T.length * 1114112
  | [], _ => by simp [countI]
  | x :: T, h => by
    have h1 := countI_bd (T := T) fun y hy => h y (.tail _ hy)
    obtain ⟨o1, o2, o3⟩ := h x (.head _)
    have e : countI (x :: T) = (x.hi - x.lo + 1) + countI T := by simp [countI]
    rw [e, List.length_cons]
    omega

set_option maxHeartbeats 1000000 in
theorem count_any (A : Option Addr) (cp : Nat) (T : List Row) (w : World) (h : Lst w A T) (hs : Srt T) :
    Calls Tryd.prog 19 #[.slice A T.length cp] w fun e w' => e = .returned (.int .i64 (countI T)) ∧ Below w.heap.size w w' := by
  have hlen := srt_length hs
  have HS := Lib.hid hs
  clear hs
  go_enter Tryd.func19, Tryd.ntmps19
  go_wp2
  go_loopw [3, 4] (fun s3 s4 wr => ∃ k : Nat, k ≤ T.length ∧ s4 = .int .i64 k ∧ s3 = .int .i64 (countI (T.take k)) ∧ Below w.heap.size w wr) (fun _ s4 _ => T.length - (intOf s4).toNat)
  case atStart => exact ⟨0, Nat.zero_le _, rfl, rfl, Below.refl _ _⟩
  case round =>
    obtain ⟨k, hk, rfl, rfl, hbel⟩ := hrel
    have hC := countI_bd (T := T.take k) fun x hx => HS.out.1 x (List.mem_of_mem_take hx)
    rw [List.length_take] at hC
    by_cases hlt : k < T.length
    · obtain ⟨b, o, x, rfl, hb, hx, hm, c0, c1, -, -, -⟩ := h.at_ hlt
      have d0 := (hbel.cell (p := ⟨b, o + k * 5, none⟩) hb).trans c0
      have d1 := (hbel.cell (p := ⟨b, o + k * 5 + 1, none⟩) hb).trans c1
      obtain ⟨o1, o2, o3⟩ := HS.out.1 x hm
      have HT : Hid (countI (T.take (k + 1)) = countI (T.take k) + (x.hi - x.lo + 1)) := Lib.hid (by rw [take_snoc hlt, hx, countI_snoc])
      have HB := Lib.hid hbel
      have hkz : (k : Int) < (T.length : Int) := by omega
      have hC1 : countI (T.take k) ≤ 1241245548544 := by omega
      obtain ⟨hC0, -⟩ := hC
      clear hx hm c0 c1 h hbel
      generalize countI (T.take k) = C at HT hC0 hC1 ⊢
      go_wp2
      go_quiet (fail)
      go_wp2
      go_roundw
      case rel => exact ⟨k + 1, by omega, by go_num, by rw [HT.out]; go_num, below_drewN HB.out _⟩
      case measure => simp [intOf]; omega
    · obtain rfl : k = T.length := by omega
      have HB := Lib.hid hbel
      clear hbel
      rw [List.take_length]
      go_wp2
      go_ret
      exact ⟨rfl, HB.out⟩
end Go.Proofs.YtfcalmjojmfooaaDoor
