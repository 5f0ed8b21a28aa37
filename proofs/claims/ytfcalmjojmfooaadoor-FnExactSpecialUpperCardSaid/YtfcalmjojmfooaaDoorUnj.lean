/-
  THE LIBRARY's FUNCTIONS, second part: unicode.to, To, ToUpper, ToLower, ToTitle and the methods of SpecialCase.
-/
import Derived.Test.YtfcalmjojmfooaaDoorUni
namespace Go.Proofs.YtfcalmjojmfooaaDoor
open Go.RowKit

set_option maxHeartbeats 1000000 in
set_option maxRecDepth 100000 in
theorem to_any (c : Nat) (hc : c < 3) (r : Int) (T : List Row) (b o cap : Nat) (w : World) (hT : Cells w b o T) (hok : TabOk T) :
    Calls Tryd.prog 43 #[.int .i64 c, .int .i32 r, .slice (some ⟨b, o, none⟩) T.length cap] w fun e w' => e = .returned (.tuple #[.int .i32 (toT T c r), .bool (lookA T r).isSome]) ∧ ∃ q, w' = w.drewN q := by
  have cL := lookup_any T b o cap r w hT hok
  unfold toT
  have h0 : ¬ ((c : Int) < 0) := by omega
  have h3 : ¬ ((3 : Int) ≤ (c : Int)) := by omega
  cases hi : lookA T r with
  | none =>
    rw [hi] at cL
    go_enter Tryd.func43, Tryd.ntmps43
    go_wp2_with (go_at_call 45; go_must (refine cL.mono ?_; rintro e w' ⟨rfl, rfl⟩))
    go_ret2
    exact ⟨rfl, 0, rfl⟩
  | some i =>
    rw [hi] at cL
    obtain ⟨hil, hlo, hhi⟩ := lookA_some hi
    have hk := hok.2 i hil
    have cC := convert_any c hc r b (o + i * 5) (T.getD i z5) w hk.1 hlo hhi hk.2.2.2 (hT i hil).1 (hT.delta i hil c hc)
    simp only [Option.isSome_some]
    generalize T.getD i z5 = x at cC hlo hhi ⊢
    generalize wrap32 (conv c r x) = y at cC ⊢
    clear hk hlo hhi hil hi
    go_enter Tryd.func43, Tryd.ntmps43
    go_wp2_with (first
      | (go_at_call 45; go_must (refine cL.mono ?_; rintro e w' ⟨rfl, rfl⟩))
      | (go_at_call 46; go_must (refine cC.mono ?_; rintro e w' ⟨rfl, q, rfl⟩)))
    go_ret2
    exact ⟨rfl, _, rfl⟩

set_option maxHeartbeats 1000000 in
theorem To_any (c : Nat) (hc : c < 3) (r : Int) (S : List Row) (w : World) (hV : CV w S) (hok : TabOk S) :
    Calls Tryd.prog 44 #[.int .i64 c, .int .i32 r] w fun e w' => e = .returned (.int .i32 (toT S c r)) ∧ ∃ q, w' = w.drewN q := by
  obtain ⟨b, o, cap, -, -, hg, hT⟩ := hV
  have cT := to_any c hc r S b o cap w hT hok
  go_enter Tryd.func44, Tryd.ntmps44
  go_wp2_with (go_at_call 43; go_must (refine cT.mono ?_; rintro e w' ⟨rfl, q, rfl⟩))
  go_ret
  exact ⟨rfl, _, rfl⟩

/-- The standard's mappings, over the table S. -/
def std (S : List Row) (c : Nat) (r : Int) : Int :=
  if r ≤ 127 then (if c = 1 then (if 65 ≤ r ∧ r ≤ 90 then r + 32 else r) else (if 97 ≤ r ∧ r ≤ 122 then r - 32 else r)) else toT S c r
theorem toT_bd (S : List Row) (c : Nat) {r : Int} (h1 : -2147483648 ≤ r) (h2 : r ≤ 2147483647) : -2147483648 ≤ toT S c r ∧ toT S c r ≤ 2147483647 := by
  unfold toT
  split
  · exact wrap32_bd _
  · exact ⟨h1, h2⟩

set_option maxHeartbeats 1000000 in
theorem ToUpper_any (r : Int) (S : List Row) (w : World) (hV : CV w S) (hok : TabOk S) (hr : -2147483648 ≤ r) :
    Calls Tryd.prog 42 #[.int .i32 r] w fun e w' => e = .returned (.int .i32 (std S 0 r)) ∧ ∃ q, w' = w.drewN q := by
  have cT := To_any 0 (by omega) r S w hV hok
  by_cases h1 : r ≤ 127
  · by_cases h2 : 97 ≤ r
    · by_cases h3 : r ≤ 122
      · have e : std S 0 r = r - 32 := by simp [std, h1, h2, h3]
        rw [e]
        go_enter Tryd.func42, Tryd.ntmps42
        go_wp2
        go_ret
        exact ⟨rfl, 0, rfl⟩
      · have e : std S 0 r = r := by simp [std, h1, h3]
        rw [e]
        go_enter Tryd.func42, Tryd.ntmps42
        go_wp2
        go_ret
        exact ⟨rfl, 0, rfl⟩
    · have e : std S 0 r = r := by simp [std, h1, h2]
      rw [e]
      go_enter Tryd.func42, Tryd.ntmps42
      go_wp2
      go_ret
      exact ⟨rfl, 0, rfl⟩
  · have e : std S 0 r = toT S 0 r := by simp [std, h1]
    rw [e]
    go_enter Tryd.func42, Tryd.ntmps42
    go_wp2_with (go_at_call 44; go_must (refine cT.mono ?_; rintro e w' ⟨rfl, q, rfl⟩))
    go_ret
    exact ⟨rfl, _, rfl⟩

set_option maxHeartbeats 1000000 in
theorem specialUpper_any (r : Int) (T S : List Row) (b o cap : Nat) (w : World) (hT : Cells w b o T) (hs : Srt T) (hV : CV w S) (hok : TabOk S) (hr : -2147483648 ≤ r) :
    Calls Tryd.prog 32 #[.slice (some ⟨b, o, none⟩) T.length cap, .int .i32 r] w fun e w' => e = .returned (.int .i32 (sp (std S 0) 0 T r)) ∧ ∃ q, w' = w.drewN q := by
  have cT := to_any 0 (by omega) r T b o cap w hT hs.tab
  unfold toT at cT
  rw [lookA_srt hs] at cT
  unfold sp
  rw [find_of]
  cases hi : ofN T r with
  | none =>
    rw [hi] at cT
    have cS : ∀ q, Calls Tryd.prog 42 #[.int .i32 r] (w.drewN q) fun e w' => e = .returned (.int .i32 (std S 0 r)) ∧ ∃ q2, w' = (w.drewN q).drewN q2 := fun q => ToUpper_any r S (w.drewN q) hV hok hr
    have HS := Lib.hid cS
    clear cS
    simp only [Option.map_none]
    generalize std S 0 r = ans at HS ⊢
    go_enter Tryd.func32, Tryd.ntmps32
    go_wp2_with fail
    refine cT.mono ?_
    rintro e w' ⟨rfl, q, rfl⟩
    go_wp2_with fail
    refine (HS.out q).mono ?_
    rintro e w' ⟨rfl, q2, rfl⟩
    go_wp2
    go_ret
    exact ⟨rfl, _, rfl⟩
  | some i =>
    rw [hi] at cT
    simp only [Option.map_some, Option.isSome_some] at cT ⊢
    generalize wrap32 (conv 0 r (T.getD i z5)) = y at cT ⊢
    by_cases hy : (y == r) = true
    · go_enter Tryd.func32, Tryd.ntmps32
      go_wp2_with fail
      refine cT.mono ?_
      rintro e w' ⟨rfl, q, rfl⟩
      go_wp2
      go_ret
      exact ⟨rfl, _, rfl⟩
    · have hy' : (y == r) = false := by simpa using hy
      clear hy
      go_enter Tryd.func32, Tryd.ntmps32
      go_wp2_with fail
      refine cT.mono ?_
      rintro e w' ⟨rfl, q, rfl⟩
      go_wp2
      go_ret
      exact ⟨rfl, _, rfl⟩

set_option maxHeartbeats 1000000 in
theorem ToLower_any (r : Int) (S : List Row) (w : World) (hV : CV w S) (hok : TabOk S) (hr : -2147483648 ≤ r) :
    Calls Tryd.prog 38 #[.int .i32 r] w fun e w' => e = .returned (.int .i32 (std S 1 r)) ∧ ∃ q, w' = w.drewN q := by
  have cT := To_any 1 (by omega) r S w hV hok
  by_cases h1 : r ≤ 127
  · by_cases h2 : 65 ≤ r
    · by_cases h3 : r ≤ 90
      · have e : std S 1 r = r + 32 := by simp [std, h1, h2, h3]
        rw [e]
        go_enter Tryd.func38, Tryd.ntmps38
        go_wp2
        go_ret
        exact ⟨rfl, 0, rfl⟩
      · have e : std S 1 r = r := by simp [std, h1, h3]
        rw [e]
        go_enter Tryd.func38, Tryd.ntmps38
        go_wp2
        go_ret
        exact ⟨rfl, 0, rfl⟩
    · have e : std S 1 r = r := by simp [std, h1, h2]
      rw [e]
      go_enter Tryd.func38, Tryd.ntmps38
      go_wp2
      go_ret
      exact ⟨rfl, 0, rfl⟩
  · have e : std S 1 r = toT S 1 r := by simp [std, h1]
    rw [e]
    go_enter Tryd.func38, Tryd.ntmps38
    go_wp2_with (go_at_call 44; go_must (refine cT.mono ?_; rintro e w' ⟨rfl, q, rfl⟩))
    go_ret
    exact ⟨rfl, _, rfl⟩

set_option maxHeartbeats 1000000 in
theorem specialLower_any (r : Int) (T S : List Row) (b o cap : Nat) (w : World) (hT : Cells w b o T) (hs : Srt T) (hV : CV w S) (hok : TabOk S) (hr : -2147483648 ≤ r) :
    Calls Tryd.prog 39 #[.slice (some ⟨b, o, none⟩) T.length cap, .int .i32 r] w fun e w' => e = .returned (.int .i32 (sp (std S 1) 1 T r)) ∧ ∃ q, w' = w.drewN q := by
  have cT := to_any 1 (by omega) r T b o cap w hT hs.tab
  unfold toT at cT
  rw [lookA_srt hs] at cT
  unfold sp
  rw [find_of]
  cases hi : ofN T r with
  | none =>
    rw [hi] at cT
    have cS : ∀ q, Calls Tryd.prog 38 #[.int .i32 r] (w.drewN q) fun e w' => e = .returned (.int .i32 (std S 1 r)) ∧ ∃ q2, w' = (w.drewN q).drewN q2 := fun q => ToLower_any r S (w.drewN q) hV hok hr
    have HS := Lib.hid cS
    clear cS
    simp only [Option.map_none]
    generalize std S 1 r = ans at HS ⊢
    go_enter Tryd.func39, Tryd.ntmps39
    go_wp2_with fail
    refine cT.mono ?_
    rintro e w' ⟨rfl, q, rfl⟩
    go_wp2_with fail
    refine (HS.out q).mono ?_
    rintro e w' ⟨rfl, q2, rfl⟩
    go_wp2
    go_ret
    exact ⟨rfl, _, rfl⟩
  | some i =>
    rw [hi] at cT
    simp only [Option.map_some, Option.isSome_some] at cT ⊢
    generalize wrap32 (conv 1 r (T.getD i z5)) = y at cT ⊢
    by_cases hy : (y == r) = true
    · go_enter Tryd.func39, Tryd.ntmps39
      go_wp2_with fail
      refine cT.mono ?_
      rintro e w' ⟨rfl, q, rfl⟩
      go_wp2
      go_ret
      exact ⟨rfl, _, rfl⟩
    · have hy' : (y == r) = false := by simpa using hy
      clear hy
      go_enter Tryd.func39, Tryd.ntmps39
      go_wp2_with fail
      refine cT.mono ?_
      rintro e w' ⟨rfl, q, rfl⟩
      go_wp2
      go_ret
      exact ⟨rfl, _, rfl⟩

set_option maxHeartbeats 1000000 in
theorem ToTitle_any (r : Int) (S : List Row) (w : World) (hV : CV w S) (hok : TabOk S) (hr : -2147483648 ≤ r) :
    Calls Tryd.prog 40 #[.int .i32 r] w fun e w' => e = .returned (.int .i32 (std S 2 r)) ∧ ∃ q, w' = w.drewN q := by
  have cT := To_any 2 (by omega) r S w hV hok
  by_cases h1 : r ≤ 127
  · by_cases h2 : 97 ≤ r
    · by_cases h3 : r ≤ 122
      · have e : std S 2 r = r - 32 := by simp [std, h1, h2, h3]
        rw [e]
        go_enter Tryd.func40, Tryd.ntmps40
        go_wp2
        go_ret
        exact ⟨rfl, 0, rfl⟩
      · have e : std S 2 r = r := by simp [std, h1, h3]
        rw [e]
        go_enter Tryd.func40, Tryd.ntmps40
        go_wp2
        go_ret
        exact ⟨rfl, 0, rfl⟩
    · have e : std S 2 r = r := by simp [std, h1, h2]
      rw [e]
      go_enter Tryd.func40, Tryd.ntmps40
      go_wp2
      go_ret
      exact ⟨rfl, 0, rfl⟩
  · have e : std S 2 r = toT S 2 r := by simp [std, h1]
    rw [e]
    go_enter Tryd.func40, Tryd.ntmps40
    go_wp2_with (go_at_call 44; go_must (refine cT.mono ?_; rintro e w' ⟨rfl, q, rfl⟩))
    go_ret
    exact ⟨rfl, _, rfl⟩

set_option maxHeartbeats 1000000 in
theorem specialTitle_any (r : Int) (T S : List Row) (b o cap : Nat) (w : World) (hT : Cells w b o T) (hs : Srt T) (hV : CV w S) (hok : TabOk S) (hr : -2147483648 ≤ r) :
    Calls Tryd.prog 41 #[.slice (some ⟨b, o, none⟩) T.length cap, .int .i32 r] w fun e w' => e = .returned (.int .i32 (sp (std S 2) 2 T r)) ∧ ∃ q, w' = w.drewN q := by
  have cT := to_any 2 (by omega) r T b o cap w hT hs.tab
  unfold toT at cT
  rw [lookA_srt hs] at cT
  unfold sp
  rw [find_of]
  cases hi : ofN T r with
  | none =>
    rw [hi] at cT
    have cS : ∀ q, Calls Tryd.prog 40 #[.int .i32 r] (w.drewN q) fun e w' => e = .returned (.int .i32 (std S 2 r)) ∧ ∃ q2, w' = (w.drewN q).drewN q2 := fun q => ToTitle_any r S (w.drewN q) hV hok hr
    have HS := Lib.hid cS
    clear cS
    simp only [Option.map_none]
    generalize std S 2 r = ans at HS ⊢
    go_enter Tryd.func41, Tryd.ntmps41
    go_wp2_with fail
    refine cT.mono ?_
    rintro e w' ⟨rfl, q, rfl⟩
    go_wp2_with fail
    refine (HS.out q).mono ?_
    rintro e w' ⟨rfl, q2, rfl⟩
    go_wp2
    go_ret
    exact ⟨rfl, _, rfl⟩
  | some i =>
    rw [hi] at cT
    simp only [Option.map_some, Option.isSome_some] at cT ⊢
    generalize wrap32 (conv 2 r (T.getD i z5)) = y at cT ⊢
    by_cases hy : (y == r) = true
    · go_enter Tryd.func41, Tryd.ntmps41
      go_wp2_with fail
      refine cT.mono ?_
      rintro e w' ⟨rfl, q, rfl⟩
      go_wp2
      go_ret
      exact ⟨rfl, _, rfl⟩
    · have hy' : (y == r) = false := by simpa using hy
      clear hy
      go_enter Tryd.func41, Tryd.ntmps41
      go_wp2_with fail
      refine cT.mono ?_
      rintro e w' ⟨rfl, q, rfl⟩
      go_wp2
      go_ret
      exact ⟨rfl, _, rfl⟩
end Go.Proofs.YtfcalmjojmfooaaDoor
