/-
  THE STATEMENT FnTurkish: by the case mappings of Turkish the letters with and without a point have each other, and all other numbers those of the standard.
  For every input of bytes the law returns true, and the input reads afterwards as it read before. Conditions: those of the given row alone (unicode.CaseRanges reads as the pinned table when the call begins).
-/
import Derived.Test.YtgkjnoahphlgaaaDoorCards
import Derived.Test.YtgkjnoahphlgaaaDoorTie
import Derived.Test.YtgkjnoahphlgaaaDoorWit
import Derived.Test.YtgkjnoahphlgaaaDoorNum
import Derived.Test.YtgkjnoahphlgaaaDoorTurk
namespace Go.Proofs.YtgkjnoahphlgaaaDoor.lFnTurkish
open Go.RowKit Go.ChangeShapes Go.WideShapes Go.ChangeAt
set_option linter.unusedVariables false

theorem turkAt {S : Int → Int} {c : Nat} {r y : Int} (x : Row) (hx : x ∈ turk) (h : x.has r = true) (hy : wrap32 (conv c r x) = y) : sp S c turk r = y := by
  rw [sp_some (srt_find srt_turk hx h), hy]

set_option maxHeartbeats 2000000 in
set_option maxRecDepth 100000 in
theorem law (A : Option Addr) (len cap : Nat) (w : World) (hby : BytesArg w A len) (hV : CV w caseS) :
    Calls Tryd.prog 13 #[.slice A len cap] w fun e w' => e = .returned (.bool true) ∧ Below w.heap.size w w' := by
  by_cases hlen : len ≤ 1048576
  case neg =>
    go_enter Tryd.func13, Tryd.ntmps13
    go_wp2
    go_ret
    exact ⟨rfl, Below.refl _ _⟩
  have HD := Lib.hid (number_any A len cap w (hby.bytes hlen))
  go_enter Tryd.func13, Tryd.ntmps13
  go_wp2_with fail
  refine HD.out.mono ?_
  rintro e w1 ⟨r, rfl, hr1, hr2, hb1⟩
  have HV1 := Lib.hid (hV.below hb1)
  have HB1 := Lib.hid hb1
  clear HD hb1 hV hby
  go_wp2_with fail
  refine (turkish_any w1).mono ?_
  rintro e w2 ⟨rfl, hL, hb2⟩
  have HL2 : Hid (LInv w w2 (some ⟨w1.heap.size, 0, none⟩) turk) := Lib.hid ⟨hL, HV1.out.below hb2, HB1.out.trans (hb2.mono HB1.out.size)⟩
  clear hL hb2 HV1 HB1

  have HYUpper : Hid (∀ (wx : World) (q y : Int), LInv w wx (some ⟨w1.heap.size, 0, none⟩) turk → -2147483648 ≤ q → sp (std caseS 0) 0 turk q = y → Calls Tryd.prog 25 #[.slice (some ⟨w1.heap.size, 0, none⟩) 4 4, .int .i32 q] wx fun e w' => e = .returned (.int .i32 y) ∧ Below wx.heap.size wx w') := Lib.hid fun wx q y hx hq he => by
    have h := SpecialUpper_any (some ⟨w1.heap.size, 0, none⟩) 4 turk caseS q wx hx.lst wf_turk srt_turk hx.cv caseS_ok hq
    rw [he] at h
    exact h

  have HYLower : Hid (∀ (wx : World) (q y : Int), LInv w wx (some ⟨w1.heap.size, 0, none⟩) turk → -2147483648 ≤ q → sp (std caseS 1) 1 turk q = y → Calls Tryd.prog 18 #[.slice (some ⟨w1.heap.size, 0, none⟩) 4 4, .int .i32 q] wx fun e w' => e = .returned (.int .i32 y) ∧ Below wx.heap.size wx w') := Lib.hid fun wx q y hx hq he => by
    have h := SpecialLower_any (some ⟨w1.heap.size, 0, none⟩) 4 turk caseS q wx hx.lst wf_turk srt_turk hx.cv caseS_ok hq
    rw [he] at h
    exact h

  have HYTitle : Hid (∀ (wx : World) (q y : Int), LInv w wx (some ⟨w1.heap.size, 0, none⟩) turk → -2147483648 ≤ q → sp (std caseS 2) 2 turk q = y → Calls Tryd.prog 22 #[.slice (some ⟨w1.heap.size, 0, none⟩) 4 4, .int .i32 q] wx fun e w' => e = .returned (.int .i32 y) ∧ Below wx.heap.size wx w') := Lib.hid fun wx q y hx hq he => by
    have h := SpecialTitle_any (some ⟨w1.heap.size, 0, none⟩) 4 turk caseS q wx hx.lst wf_turk srt_turk hx.cv caseS_ok hq
    rw [he] at h
    exact h

  go_wp2_with fail
  refine (HYUpper.out w2 105 304 HL2.out (by omega) (turkAt ⟨105, 105, 199, 0, 199⟩ (by simp [turk]) (by decide) (by simp [wrap32, conv, Row.delta]))).mono ?_
  rintro e w3 ⟨rfl, hb3⟩
  have HL3 := Lib.hid (HL2.out.below hb3)
  clear hb3 HL2

  go_wp2_with fail
  refine (HYLower.out w3 73 305 HL3.out (by omega) (turkAt ⟨73, 73, 0, 232, 0⟩ (by simp [turk]) (by decide) (by simp [wrap32, conv, Row.delta]))).mono ?_
  rintro e w4 ⟨rfl, hb4⟩
  have HL4 := Lib.hid (HL3.out.below hb4)
  clear hb4 HL3

  go_wp2_with fail
  refine (HYUpper.out w4 305 73 HL4.out (by omega) (turkAt ⟨305, 305, -232, 0, -232⟩ (by simp [turk]) (by decide) (by simp [wrap32, conv, Row.delta]))).mono ?_
  rintro e w5 ⟨rfl, hb5⟩
  have HL5 := Lib.hid (HL4.out.below hb5)
  clear hb5 HL4

  go_wp2_with fail
  refine (HYLower.out w5 304 105 HL5.out (by omega) (turkAt ⟨304, 304, 0, -199, 0⟩ (by simp [turk]) (by decide) (by simp [wrap32, conv, Row.delta]))).mono ?_
  rintro e w6 ⟨rfl, hb6⟩
  have HL6 := Lib.hid (HL5.out.below hb6)
  clear hb6 HL5

  go_wp2_with fail
  refine (HYTitle.out w6 105 304 HL6.out (by omega) (turkAt ⟨105, 105, 199, 0, 199⟩ (by simp [turk]) (by decide) (by simp [wrap32, conv, Row.delta]))).mono ?_
  rintro e w7 ⟨rfl, hb7⟩
  have HL7 := Lib.hid (HL6.out.below hb7)
  clear hb7 HL6

  go_wp2_with fail
  refine (HYTitle.out w7 305 73 HL7.out (by omega) (turkAt ⟨305, 305, -232, 0, -232⟩ (by simp [turk]) (by decide) (by simp [wrap32, conv, Row.delta]))).mono ?_
  rintro e w8 ⟨rfl, hb8⟩
  have HL8 := Lib.hid (HL7.out.below hb8)
  clear hb8 HL7

  go_wp2_with fail
  refine (HYUpper.out w8 73 73 HL8.out (by omega) (turkAt ⟨73, 73, 0, 232, 0⟩ (by simp [turk]) (by decide) (by simp [wrap32, conv, Row.delta]))).mono ?_
  rintro e w9 ⟨rfl, hb9⟩
  have HL9 := Lib.hid (HL8.out.below hb9)
  clear hb9 HL8

  go_wp2_with fail
  refine (HYTitle.out w9 73 73 HL9.out (by omega) (turkAt ⟨73, 73, 0, 232, 0⟩ (by simp [turk]) (by decide) (by simp [wrap32, conv, Row.delta]))).mono ?_
  rintro e w10 ⟨rfl, hb10⟩
  have HL10 := Lib.hid (HL9.out.below hb10)
  clear hb10 HL9

  go_wp2_with fail
  refine (HYLower.out w10 105 105 HL10.out (by omega) (turkAt ⟨105, 105, 199, 0, 199⟩ (by simp [turk]) (by decide) (by simp [wrap32, conv, Row.delta]))).mono ?_
  rintro e w11 ⟨rfl, hb11⟩
  have HL11 := Lib.hid (HL10.out.below hb11)
  clear hb11 HL10

  go_wp2_with fail
  refine (HYUpper.out w11 304 304 HL11.out (by omega) (turkAt ⟨304, 304, 0, -199, 0⟩ (by simp [turk]) (by decide) (by simp [wrap32, conv, Row.delta]))).mono ?_
  rintro e w12 ⟨rfl, hb12⟩
  have HL12 := Lib.hid (HL11.out.below hb12)
  clear hb12 HL11

  go_wp2_with fail
  refine (HYTitle.out w12 304 304 HL12.out (by omega) (turkAt ⟨304, 304, 0, -199, 0⟩ (by simp [turk]) (by decide) (by simp [wrap32, conv, Row.delta]))).mono ?_
  rintro e w13 ⟨rfl, hb13⟩
  have HL13 := Lib.hid (HL12.out.below hb13)
  clear hb13 HL12

  go_wp2_with fail
  refine (HYLower.out w13 305 305 HL13.out (by omega) (turkAt ⟨305, 305, -232, 0, -232⟩ (by simp [turk]) (by decide) (by simp [wrap32, conv, Row.delta]))).mono ?_
  rintro e w14 ⟨rfl, hb14⟩
  have HL14 := Lib.hid (HL13.out.below hb14)
  clear hb14 HL13
  by_cases r1 : r = 105
  · have b1 : (r == 105) = true := by simp [r1]
    clear r1
    have HB := Lib.hid HL14.out.bel
    go_wp2
    go_ret
    exact ⟨rfl, HB.out⟩

  have b1 : (r == 105) = false := by simp [r1]
  by_cases r2 : r = 73
  · have b2 : (r == 73) = true := by simp [r2]
    clear r2 r1
    have HB := Lib.hid HL14.out.bel
    go_wp2
    go_ret
    exact ⟨rfl, HB.out⟩

  have b2 : (r == 73) = false := by simp [r2]
  by_cases r3 : r = 304
  · have b3 : (r == 304) = true := by simp [r3]
    clear r3 r2 r1
    have HB := Lib.hid HL14.out.bel
    go_wp2
    go_ret
    exact ⟨rfl, HB.out⟩

  have b3 : (r == 304) = false := by simp [r3]
  by_cases r4 : r = 305
  · have b4 : (r == 305) = true := by simp [r4]
    clear r4 r3 r2 r1
    have HB := Lib.hid HL14.out.bel
    go_wp2
    go_ret
    exact ⟨rfl, HB.out⟩

  have b4 : (r == 305) = false := by simp [r4]
  have E0 : Hid (sp (std caseS 0) 0 turk r = std caseS 0 r) := Lib.hid (turk_none r2 r1 r3 r4)
  have E1 : Hid (sp (std caseS 1) 1 turk r = std caseS 1 r) := Lib.hid (turk_none r2 r1 r3 r4)
  have E2 : Hid (sp (std caseS 2) 2 turk r = std caseS 2 r) := Lib.hid (turk_none r2 r1 r3 r4)
  clear r1 r2 r3 r4

  go_wp2_with fail
  refine (HYUpper.out w14 r (std caseS 0 r) HL14.out hr1 E0.out).mono ?_
  rintro e w15 ⟨rfl, hb15⟩
  have HL15 := Lib.hid (HL14.out.below hb15)
  clear hb15 HL14

  go_wp2_with fail
  refine (implToUpper_any r caseS w15 HL15.out.cv caseS_ok hr1).mono ?_
  rintro e w16 ⟨rfl, hb16⟩
  have HL16 := Lib.hid (HL15.out.below hb16)
  clear hb16 HL15

  go_wp2_with fail
  refine (HYLower.out w16 r (std caseS 1 r) HL16.out hr1 E1.out).mono ?_
  rintro e w17 ⟨rfl, hb17⟩
  have HL17 := Lib.hid (HL16.out.below hb17)
  clear hb17 HL16

  go_wp2_with fail
  refine (implToLower_any r caseS w17 HL17.out.cv caseS_ok hr1).mono ?_
  rintro e w18 ⟨rfl, hb18⟩
  have HL18 := Lib.hid (HL17.out.below hb18)
  clear hb18 HL17

  go_wp2_with fail
  refine (HYTitle.out w18 r (std caseS 2 r) HL18.out hr1 E2.out).mono ?_
  rintro e w19 ⟨rfl, hb19⟩
  have HL19 := Lib.hid (HL18.out.below hb19)
  clear hb19 HL18

  go_wp2_with fail
  refine (implToTitle_any r caseS w19 HL19.out.cv caseS_ok hr1).mono ?_
  rintro e w20 ⟨rfl, hb20⟩
  have HL20 := Lib.hid (HL19.out.below hb20)
  clear hb20 HL19

  have HB := Lib.hid HL20.out.bel
  go_wp2
  go_ret
  exact ⟨rfl, HB.out⟩

/-! ### the row, and the card -/
set_option maxRecDepth 100000 in
theorem lifted (os : Os) (started : os.Started) (H : Type) (enc : TypeId × Value → H) :
    ReturnsInHanded {} Tryd.checked os 13 .any (fun w args => (Rows.fnTurkishSpec.pre enc Tryd.prog Tryd.f13 [] false w args ∧ laidMetH Tryd.prog Rows.fnTurkishRow.laid w) ∧ sizedMet enc Tryd.prog Tryd.f13 (OpenSpec.ofChange Rows.fnTurkishSpec) false w args)
      (Rows.fnTurkishSpec.post enc Tryd.prog Tryd.f13 false true false false) := by
  refine returnsInHanded_of_change_and (C := Tryd.checked) (X := fun w _ => laidMetH Tryd.prog Rows.fnTurkishRow.laid w) (fun _ _ _ hh h => h.of_heap hh) own started (by kernel_rfl) Tryd.func13
    (ChangeSpec.witness_shaped (enc := enc) (C := Tryd.checked) (os := os) (X := fun w _ => laidMetH Tryd.prog Rows.fnTurkishRow.laid w) false (World.laidAll Tryd.prog os lay) #[.slice none 0 0] 8 (World.laidAll_os _ _ _)
      (wit_shaped os) (by kernel_rfl) (by kernel_rfl) (by kernel_rfl) (wit_laid os)) ?_
  intro W base args ds gs before hval0 hW _ _ hL _
  have hval : ∀ (j : Nat) t v, Tryd.f13.params[j]? = some t → args[j]? = some v → Value.okWide Tryd.prog W .any base t v := hval0
  have hW' := hW
  obtain ⟨p, q, hA0, hV, rfl, _, _⟩ := hW
  have hA : DataW.TrodAll enc Tryd.prog W 0 (fun _ => true) true Tryd.f13.params.toList args.toList ds p := hA0
  rw [Tryd.params13] at hA hval
  obtain ⟨v0, d0, rfl, rfl, h0⟩ := trodAll_one hA
  obtain ⟨rfl, rfl⟩ := trodVars_none hV
  obtain ⟨a0, len0, cap0, rfl⟩ := okWide_slice Tryd.underlying22 (hval 0 22 v0 rfl rfl)
  have lt0 : ∀ x ∈ p, x.block < W.heap.size := by obtain ⟨m, hm⟩ := h0; exact DataW.trod_lt m _ _ _ hm
  have hL' : laidMetH Tryd.prog lay W := hL
  rw [MakeChecks.laidMetH_plain _ _ _ lay_plain] at hL'
  have hT : CV W caseS := cv_of_reads (Lib.laidMet.reads hL' (.head _))
  refine (law a0 len0 cap0 W (bytes_of h0) hT).mono fun e W' ⟨he, bel⟩ => ?_
  subst he
  exact ⟨_, rfl, _, _, _, [], _, [], hW', trodAll_mk1 (shut_bool Tryd.underlying4 _), trodAll_mk1 (Below.trod laidOut (by kernel_rfl) (of_decide_eq_true (by kernel_rfl)) h0 bel lt0), rfl, bel.frame _, fun h => by cases h⟩

theorem said : Rows.FnTurkishSaid :=
  OpenClaim.holds_of_wide 13 Tryd.f13 rfl rfl rfl rfl rfl rfl rfl ⟨rfl, rfl, rfl, rfl, rfl⟩ rfl rfl rfl rfl rfl (by kernel_rfl) Tryd.func13 (by kernel_rfl)
    (of_decide_eq_true (by kernel_rfl)) (by unfold Func.isWrapper; first | (rw [if_pos (by decide +kernel)]; kernel_rfl) | (rw [if_neg (by decide +kernel)]; exact ⟨rfl, rfl⟩))
    (fun os started H enc _ => lifted os started H enc)
theorem plain (f : FuncId) (fn : Func) (hf : Tryd.pinned.checked.prog.funcNamed Rows.fnTurkishRow.func = some f) (hfn : Tryd.pinned.checked.prog.funcs[f]? = some fn) :
    false = Tryd.pinned.checked.prog.looks [] ∧ ∀ (j : Nat) t, fn.params[j]? = some t → Tryd.pinned.checked.prog.wantsStandIn t = false := by
  obtain rfl : f = 13 := Option.some.inj ((show Tryd.prog.funcNamed Rows.fnTurkishRow.func = some 13 by kernel_rfl).symm.trans hf) |>.symm
  obtain rfl : fn = Tryd.f13 := (Option.some.inj (Tryd.func13.symm.trans hfn)).symm
  refine ⟨by kernel_rfl, fun j t ht => ?_⟩
  rw [Tryd.params13] at ht
  obtain rfl : t = 22 := by simpa using Array.mem_of_getElem? ht
  exact (show Tryd.prog.wantsStandIn 22 = false by kernel_rfl)
/-- The card. -/
theorem holds : Rows.FnTurkishCardSaid :=
  Claim7.holds_tied_plain_at .later [] _ _ _ _ said (fun _ h => by cases h) (by kernel_rfl) (fun _ h => by cases h) fnTurkish_row_tie rfl ⟨rfl, rfl⟩ (by kernel_rfl) rfl plain (by kernel_rfl)
#print axioms holds
end Go.Proofs.YtgkjnoahphlgaaaDoor.lFnTurkish
