/-
  THE LIBRARY's FUNCTIONS: unicode.lookupCaseRange, convertCase, to, To, ToUpper, ToLower, ToTitle and the methods of SpecialCase, over whatever table lies in memory. (The walks of the first three are those of the guide's shelf, turned to this translation.)
-/
import Derived.Test.YtfcalmjojmfooaaDoorBase
namespace Go.Proofs.YtfcalmjojmfooaaDoor
open Go.RowKit

set_option maxHeartbeats 1000000 in
set_option maxRecDepth 100000 in
theorem lookup_any (T : List Row) (b o cap : Nat) (r : Int) (w : World) (hT : Cells w b o T) (hok : TabOk T) :
    Calls Tryd.prog 45 #[.int .i32 r, .slice (some ⟨b, o, none⟩) T.length cap] w fun e w' =>
      e = .returned (match lookA T r with | some i => .pointer (some ⟨b, o + i * 5, none⟩) | none => .pointer none) ∧ w' = w := by
  obtain ⟨hn, hok⟩ := hok
  unfold lookA
  generalize hANS : look T r (T.length + 1) 0 T.length = ANS
  go_enter Tryd.func45, Tryd.ntmps45
  go_wp2
  go_loopg [5, 6] (T.length + 1) (fun g s5 s6 wx => wx = w ∧ ∃ lo hi : Nat, s5 = .int .i64 lo ∧ s6 = .int .i64 hi ∧ lo ≤ hi ∧ hi ≤ T.length ∧ hi - lo < g ∧ look T r g lo hi = ANS)
  case atStart => exact ⟨rfl, 0, T.length, rfl, rfl, Nat.zero_le _, Nat.le_refl _, by omega, hANS⟩
  case round =>
    obtain ⟨rfl, lo, hi, rfl, rfl, hlh, hhn, hg, hl⟩ := hrel
    clear hANS
    by_cases hlt : lo < hi
    · obtain ⟨g', rfl⟩ : ∃ g', gk = g' + 1 := ⟨gk - 1, by omega⟩
      have hz : (lo : Int) < (hi : Int) := by omega
      obtain ⟨m, hm⟩ : ∃ m, (lo + hi) / 2 = m := ⟨_, rfl⟩
      have hmr : lo ≤ m ∧ m < hi := by omega
      have hmz : ((lo : Int) + (hi : Int)) / 2 = (m : Int) := by omega
      obtain ⟨c0, c1, -, -, -⟩ := hT m (by omega)
      obtain ⟨o0, o1, o2, o3⟩ := hok m (by omega)
      simp only [look, hlt, if_true, hm] at hl
      obtain ⟨Lo, hLo⟩ : ∃ Lo, (T.getD m z5).lo = Lo := ⟨_, rfl⟩
      obtain ⟨Hi, hHi⟩ : ∃ Hi, (T.getD m z5).hi = Hi := ⟨_, rfl⟩
      rw [hLo] at c0 o0 o1 hl
      rw [hHi] at c1 o2 o3 hl
      clear hT hok hLo hHi
      by_cases hin : Lo ≤ r ∧ r ≤ Hi
      · rw [if_pos hin] at hl
        subst hl
        obtain ⟨h1, h2⟩ := hin
        go_wp2
        go_ret
        exact ⟨rfl, rfl⟩
      · rw [if_neg hin] at hl
        by_cases hb : r < Lo
        · rw [if_pos hb] at hl
          clear hin
          go_wp2
          go_roundg g'
          case measure => omega
          case rel => exact ⟨rfl, lo, m, rfl, rfl, by omega, by omega, by omega, hl⟩
        · rw [if_neg hb] at hl
          have h1 : Lo ≤ r := by omega
          have h2 : ¬ (r ≤ Hi) := fun h => hin ⟨h1, h⟩
          clear hin
          go_wp2
          go_roundg g'
          case measure => omega
          case rel => exact ⟨rfl, m + 1, hi, by first | rfl | simp, rfl, by omega, by omega, by omega, hl⟩
    · have hz : ¬ ((lo : Int) < (hi : Int)) := by omega
      have hn' : look T r gk lo hi = none := by cases gk <;> simp [look, hlt]
      rw [hn'] at hl
      subst hl
      go_wp2
      go_ret
      exact ⟨rfl, rfl⟩

theorem and1 : ∀ c : Nat, c < 3 → wrap32 (bits .and .i64 (c : Int) 1) = ((c % 2 : Nat) : Int)
  | 0, _ => by
    have h : bits .and .i64 ((0 : Nat) : Int) 1 = 0 := by decide
    rw [h]; unfold wrap32; omega
  | 1, _ => by
    have h : bits .and .i64 ((1 : Nat) : Int) 1 = 1 := by decide
    rw [h]; unfold wrap32; omega
  | 2, _ => by
    have h : bits .and .i64 ((2 : Nat) : Int) 1 = 0 := by decide
    rw [h]; unfold wrap32; omega
  | _ + 3, h => by omega
theorem ul_eq (c : Nat) (hc : c < 3) (r Lo : Int) (hlo : Lo ≤ r) (hr : r - Lo < 2147483647) :
    bits .or .i32 (bits .andNot .i32 (r - Lo) 1) (wrap32 (bits .and .i64 (c : Int) 1)) = (r - Lo) - (r - Lo) % 2 + ((c % 2 : Nat) : Int) := by
  obtain ⟨X, hX⟩ : ∃ X : Nat, r - Lo = (X : Int) := ⟨(r - Lo).toNat, by omega⟩
  rw [hX, i32_andNot1 X (by omega), and1 c hc, i32_or_bit (X - X % 2) (c % 2) (by omega) (by omega) (by omega)]
  omega

set_option maxHeartbeats 1000000 in
set_option maxRecDepth 100000 in
theorem convert_any (c : Nat) (hc : c < 3) (r : Int) (b o : Nat) (x : Row) (w : World) (h0 : 0 ≤ x.lo) (hlo : x.lo ≤ r) (hhi : r ≤ x.hi) (hH : x.hi < 2147483647)
    (c0 : w.cell? ⟨b, o, none⟩ = some (.int .u32 x.lo)) (cD : w.cell? ⟨b, o + 2 + c, none⟩ = some (.int .i32 (x.delta c))) :
    Calls Tryd.prog 46 #[.int .i64 c, .int .i32 r, .pointer (some ⟨b, o, none⟩)] w fun e w' => e = .returned (.int .i32 (wrap32 (conv c r x))) ∧ ∃ q, w' = w.drewN q := by
  have hcz : (c : Int) < 3 := by omega
  obtain ⟨Lo, hLo⟩ : ∃ Lo, x.lo = Lo := ⟨_, rfl⟩
  obtain ⟨D, hDe⟩ : ∃ D, x.delta c = D := ⟨_, rfl⟩
  unfold conv
  rw [hLo] at c0 hlo h0 ⊢
  rw [hDe] at cD ⊢
  have hL31 : Lo < 2147483648 := by omega
  by_cases hD : (1114111 : Int) < D
  · have hu := ul_eq c hc r Lo hlo (by omega)
    go_enter Tryd.func46, Tryd.ntmps46
    go_wp2
    go_quiet (fail)
    go_wp2
    go_ret
    refine ⟨?_, _, rfl⟩
    show Ending.returned (Value.int _ _) = _
    congr 2
    unfold wrap32
    omega
  · go_enter Tryd.func46, Tryd.ntmps46
    go_wp2
    go_ret
    exact ⟨by first | rfl | (rw [if_neg (by omega)]; rfl), 0, rfl⟩
end Go.Proofs.YtfcalmjojmfooaaDoor
