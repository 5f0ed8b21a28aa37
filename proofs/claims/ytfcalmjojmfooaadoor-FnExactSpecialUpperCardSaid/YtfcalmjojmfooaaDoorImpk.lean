/-
  THE THIN PACKAGE's FUNCTIONS: SpecialUpper, SpecialLower, SpecialTitle, ToUpper, ToLower, ToTitle.
-/
import Derived.Test.YtfcalmjojmfooaaDoorImpl
import Derived.Test.YtfcalmjojmfooaaDoorUnj
namespace Go.Proofs.YtfcalmjojmfooaaDoor
open Go.RowKit

set_option maxHeartbeats 1000000 in
theorem SpecialUpper_any (A : Option Addr) (cp : Nat) (T S : List Row) (r : Int) (w : World) (h : Lst w A T) (hwf : Wf T) (hs : Srt T) (hV : CV w S) (hok : TabOk S) (hr : -2147483648 ≤ r) :
    Calls Tryd.prog 15 #[.slice A T.length cp, .int .i32 r] w fun e w' => e = .returned (.int .i32 (sp (std S 0) 0 T r)) ∧ Below w.heap.size w w' := by
  have hl := srt_length hs
  have H1 := Lib.hid (special_any A cp T w h hwf (by omega))
  have H2 : Hid (∀ w1 b cp', Cells w1 b 0 T → CV w1 S → Calls Tryd.prog 32 #[.slice (some ⟨b, 0, none⟩) T.length cp', .int .i32 r] w1 fun e w' => e = .returned (.int .i32 (sp (std S 0) 0 T r)) ∧ ∃ q, w' = w1.drewN q) :=
    Lib.hid fun w1 b cp' hT hV' => specialUpper_any r T S b 0 cp' w1 hT hs hV' hok hr
  generalize sp (std S 0) 0 T r = ans at H2 ⊢
  clear hl hs hwf h
  go_enter Tryd.func15, Tryd.ntmps15
  go_wp2_with fail
  refine H1.out.mono ?_
  rintro e w1 ⟨v, rfl, hown, hbel⟩
  obtain ⟨b, cp', rfl, -, -, hc⟩ := hown.form
  have H3 := Lib.hid (H2.out w1 b cp' hc (hV.below hbel))
  have HB := Lib.hid hbel
  clear hown hc hbel H2 H1 hV
  go_wp2_with fail
  refine H3.out.mono ?_
  rintro e w2 ⟨rfl, q, rfl⟩
  go_wp2
  go_ret
  exact ⟨rfl, below_drewN HB.out q⟩

set_option maxHeartbeats 1000000 in
theorem implToUpper_any (r : Int) (S : List Row) (w : World) (hV : CV w S) (hok : TabOk S) (hr : -2147483648 ≤ r) :
    Calls Tryd.prog 28 #[.int .i32 r] w fun e w' => e = .returned (.int .i32 (std S 0 r)) ∧ Below w.heap.size w w' := by
  have H1 := Lib.hid (ToUpper_any r S w hV hok hr)
  generalize std S 0 r = ans at H1 ⊢
  go_enter Tryd.func28, Tryd.ntmps28
  go_wp2_with fail
  refine H1.out.mono ?_
  rintro e w2 ⟨rfl, q, rfl⟩
  go_wp2
  go_ret
  exact ⟨rfl, below_drewN (Below.refl _ _) q⟩

set_option maxHeartbeats 1000000 in
theorem SpecialLower_any (A : Option Addr) (cp : Nat) (T S : List Row) (r : Int) (w : World) (h : Lst w A T) (hwf : Wf T) (hs : Srt T) (hV : CV w S) (hok : TabOk S) (hr : -2147483648 ≤ r) :
    Calls Tryd.prog 25 #[.slice A T.length cp, .int .i32 r] w fun e w' => e = .returned (.int .i32 (sp (std S 1) 1 T r)) ∧ Below w.heap.size w w' := by
  have hl := srt_length hs
  have H1 := Lib.hid (special_any A cp T w h hwf (by omega))
  have H2 : Hid (∀ w1 b cp', Cells w1 b 0 T → CV w1 S → Calls Tryd.prog 39 #[.slice (some ⟨b, 0, none⟩) T.length cp', .int .i32 r] w1 fun e w' => e = .returned (.int .i32 (sp (std S 1) 1 T r)) ∧ ∃ q, w' = w1.drewN q) :=
    Lib.hid fun w1 b cp' hT hV' => specialLower_any r T S b 0 cp' w1 hT hs hV' hok hr
  generalize sp (std S 1) 1 T r = ans at H2 ⊢
  clear hl hs hwf h
  go_enter Tryd.func25, Tryd.ntmps25
  go_wp2_with fail
  refine H1.out.mono ?_
  rintro e w1 ⟨v, rfl, hown, hbel⟩
  obtain ⟨b, cp', rfl, -, -, hc⟩ := hown.form
  have H3 := Lib.hid (H2.out w1 b cp' hc (hV.below hbel))
  have HB := Lib.hid hbel
  clear hown hc hbel H2 H1 hV
  go_wp2_with fail
  refine H3.out.mono ?_
  rintro e w2 ⟨rfl, q, rfl⟩
  go_wp2
  go_ret
  exact ⟨rfl, below_drewN HB.out q⟩

set_option maxHeartbeats 1000000 in
theorem implToLower_any (r : Int) (S : List Row) (w : World) (hV : CV w S) (hok : TabOk S) (hr : -2147483648 ≤ r) :
    Calls Tryd.prog 24 #[.int .i32 r] w fun e w' => e = .returned (.int .i32 (std S 1 r)) ∧ Below w.heap.size w w' := by
  have H1 := Lib.hid (ToLower_any r S w hV hok hr)
  generalize std S 1 r = ans at H1 ⊢
  go_enter Tryd.func24, Tryd.ntmps24
  go_wp2_with fail
  refine H1.out.mono ?_
  rintro e w2 ⟨rfl, q, rfl⟩
  go_wp2
  go_ret
  exact ⟨rfl, below_drewN (Below.refl _ _) q⟩

set_option maxHeartbeats 1000000 in
theorem SpecialTitle_any (A : Option Addr) (cp : Nat) (T S : List Row) (r : Int) (w : World) (h : Lst w A T) (hwf : Wf T) (hs : Srt T) (hV : CV w S) (hok : TabOk S) (hr : -2147483648 ≤ r) :
    Calls Tryd.prog 27 #[.slice A T.length cp, .int .i32 r] w fun e w' => e = .returned (.int .i32 (sp (std S 2) 2 T r)) ∧ Below w.heap.size w w' := by
  have hl := srt_length hs
  have H1 := Lib.hid (special_any A cp T w h hwf (by omega))
  have H2 : Hid (∀ w1 b cp', Cells w1 b 0 T → CV w1 S → Calls Tryd.prog 41 #[.slice (some ⟨b, 0, none⟩) T.length cp', .int .i32 r] w1 fun e w' => e = .returned (.int .i32 (sp (std S 2) 2 T r)) ∧ ∃ q, w' = w1.drewN q) :=
    Lib.hid fun w1 b cp' hT hV' => specialTitle_any r T S b 0 cp' w1 hT hs hV' hok hr
  generalize sp (std S 2) 2 T r = ans at H2 ⊢
  clear hl hs hwf h
  go_enter Tryd.func27, Tryd.ntmps27
  go_wp2_with fail
  refine H1.out.mono ?_
  rintro e w1 ⟨v, rfl, hown, hbel⟩
  obtain ⟨b, cp', rfl, -, -, hc⟩ := hown.form
  have H3 := Lib.hid (H2.out w1 b cp' hc (hV.below hbel))
  have HB := Lib.hid hbel
  clear hown hc hbel H2 H1 hV
  go_wp2_with fail
  refine H3.out.mono ?_
  rintro e w2 ⟨rfl, q, rfl⟩
  go_wp2
  go_ret
  exact ⟨rfl, below_drewN HB.out q⟩

set_option maxHeartbeats 1000000 in
theorem implToTitle_any (r : Int) (S : List Row) (w : World) (hV : CV w S) (hok : TabOk S) (hr : -2147483648 ≤ r) :
    Calls Tryd.prog 26 #[.int .i32 r] w fun e w' => e = .returned (.int .i32 (std S 2 r)) ∧ Below w.heap.size w w' := by
  have H1 := Lib.hid (ToTitle_any r S w hV hok hr)
  generalize std S 2 r = ans at H1 ⊢
  go_enter Tryd.func26, Tryd.ntmps26
  go_wp2_with fail
  refine H1.out.mono ?_
  rintro e w2 ⟨rfl, q, rfl⟩
  go_wp2
  go_ret
  exact ⟨rfl, below_drewN (Below.refl _ _) q⟩
end Go.Proofs.YtfcalmjojmfooaaDoor
