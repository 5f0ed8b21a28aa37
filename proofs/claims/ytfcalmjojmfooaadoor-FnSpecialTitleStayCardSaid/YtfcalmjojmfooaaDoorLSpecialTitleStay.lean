/-
  THE STATEMENT FnSpecialTitleStay: deltas of 0 let a number stay, whatever title case the standard has, and all others have that of the standard; and by a delta of 1 the number 0 becomes 1.
  For every input of bytes the law returns true, and the input reads afterwards as it read before. Conditions: those of the given row alone (unicode.CaseRanges reads as the pinned table when the call begins).
-/
import Derived.Test.YtfcalmjojmfooaaDoorCards
import Derived.Test.YtfcalmjojmfooaaDoorTie
import Derived.Test.YtfcalmjojmfooaaDoorWit
import Derived.Test.YtfcalmjojmfooaaDoorOne
import Derived.Test.YtfcalmjojmfooaaDoorStay
namespace Go.Proofs.YtfcalmjojmfooaaDoor.lFnSpecialTitleStay
open Go.RowKit Go.ChangeShapes Go.WideShapes Go.ChangeAt
set_option linter.unusedVariables false

set_option maxHeartbeats 2000000 in
set_option maxRecDepth 100000 in
theorem law (A : Option Addr) (len cap : Nat) (w : World) (hby : BytesArg w A len) (hV : CV w caseS) :
    Calls Tryd.prog 14 #[.slice A len cap] w fun e w' => e = .returned (.bool true) ∧ Below w.heap.size w w' := by
  by_cases hlen : len ≤ 1048576
  case neg =>
    go_enter Tryd.func14, Tryd.ntmps14
    go_wp2
    go_ret
    exact ⟨rfl, Below.refl _ _⟩
  have HZ := Lib.hid (oneTitle ⟨48, 48, 1, 1, 1⟩ 48 49 w (by unfold Row.wf; decide) (by unfold Row.ok; decide) (by decide) (by simp [wrap32, conv, Row.delta]) hV)
  go_enter Tryd.func14, Tryd.ntmps14
  go_wp2_with fail
  refine HZ.out.mono ?_
  rintro e w0 ⟨rfl, hb0⟩
  have HV0 := Lib.hid (hV.below hb0)
  have HB0 := Lib.hid hb0
  have HD := Lib.hid (draw_any A len cap w0 ((hby.below hb0).bytes hlen))
  clear HZ hb0 hV hby
  go_wp2_with fail
  refine HD.out.mono ?_
  rintro e w1 ⟨A1, c1, T, r, rfl, hL, hwf, hT, hr1, hr2, hcp, hb1⟩
  have HCp := Lib.hid hcp
  clear hcp
  have HL : Hid (LInv w w1 A1 T) := Lib.hid ⟨hL, HV0.out.below hb1, HB0.out.trans (hb1.mono HB0.out.size)⟩
  have HWf := Lib.hid hwf
  clear hL hwf hb1 HV0 HB0
  clear HD
  have HVd := Lib.hid (valid_any A1 c1 T w1 HL.out.lst HWf.out (by omega))
  cases hv : validB T with
  | false =>
    rw [hv] at HVd
    clear hv
    go_wp2_with fail
    refine HVd.out.mono ?_
    rintro e w2 ⟨rfl, hb2⟩
    have HB := Lib.hid (HL.out.below hb2).bel
    clear hb2
    go_wp2
    go_ret
    exact ⟨rfl, HB.out⟩
  | true =>
    rw [hv] at HVd
    have HS := Lib.hid (valid_srt HWf.out hv)
    have Hv := Lib.hid hv
    clear hv
    go_wp2_with fail
    refine HVd.out.mono ?_
    rintro e w2 ⟨rfl, hb2⟩
    have HL2 := Lib.hid (HL.out.below hb2)
    clear hb2 HL HVd
    have HC := Lib.hid (stay_any A1 c1 T w2 HL2.out.lst (by omega))
    go_wp2_with fail
    refine HC.out.mono ?_
    rintro e w3 ⟨v, rfl, hown, hb3⟩
    obtain ⟨A3, c3, rfl, hL3⟩ := hown.lst
    have h4 := SpecialTitle_any A3 c3 (stay T) caseS r w3 hL3 (wf_stay HWf.out) (srt_stay HS.out) (HL2.out.below hb3).cv caseS_ok hr1
    have HL3 := Lib.hid (HL2.out.below hb3)
    have hO : ∀ wx, LInv w wx A1 T → Calls Tryd.prog 21 #[.slice A1 T.length c1, .int .i32 r] wx fun e w' => e = .returned (.int .i64 (ofI T r)) ∧ wx = w' := fun wx hx => of_any A1 c1 T r wx hx.lst HWf.out (by omega) hr1 hr2
    have hst := sp_stay (std caseS 2) 2 hr1 hr2 T
    clear hown hL3 hb3 HC HL2
    by_cases ho : 0 ≤ ofI T r
    · rw [hst.1 ho] at h4
      generalize ofI T r = at_ at hO ho
      have H4 := Lib.hid h4
      have HO := Lib.hid hO
      clear h4 hO hst
      go_wp2_with fail
      refine H4.out.mono ?_
      rintro e w4 ⟨rfl, hb4⟩
      have HL4 := Lib.hid (HL3.out.below hb4)
      clear hb4 HL3 H4
      go_wp2_with fail
      refine (HO.out w4 HL4.out).mono ?_
      rintro e w5 ⟨rfl, rfl⟩
      have HB := Lib.hid HL4.out.bel
      go_wp2
      go_ret
      exact ⟨rfl, HB.out⟩

    · rw [hst.2 (by omega)] at h4
      have ho2 : ofI T r < 0 := by omega
      generalize ofI T r = at_ at hO ho ho2
      have HTo : Hid (∀ wx, CV wx caseS → Calls Tryd.prog 26 #[.int .i32 r] wx fun e w' => e = .returned (.int .i32 (std caseS 2 r)) ∧ Below wx.heap.size wx w') := Lib.hid fun wx hx => implToTitle_any r caseS wx hx caseS_ok hr1

      generalize std caseS 2 r = y at h4 HTo
      have H4 := Lib.hid h4
      have HO := Lib.hid hO
      clear h4 hO hst ho
      go_wp2_with fail
      refine H4.out.mono ?_
      rintro e w4 ⟨rfl, hb4⟩
      have HL4 := Lib.hid (HL3.out.below hb4)
      clear hb4 HL3 H4
      go_wp2_with fail
      refine (HO.out w4 HL4.out).mono ?_
      rintro e w5 ⟨rfl, rfl⟩

      go_wp2_with fail
      refine (HTo.out w4 HL4.out.cv).mono ?_
      rintro e w5 ⟨rfl, hb5⟩
      have HL5 := Lib.hid (HL4.out.below hb5)
      clear hb5 HL4

      have HB := Lib.hid HL5.out.bel
      go_wp2
      go_ret
      exact ⟨rfl, HB.out⟩

/-! ### the row, and the card -/
set_option maxRecDepth 100000 in
theorem lifted (os : Os) (started : os.Started) (H : Type) (enc : TypeId × Value → H) :
    ReturnsInHanded {} Tryd.checked os 14 .any (fun w args => (Rows.fnSpecialTitleStaySpec.pre enc Tryd.prog Tryd.f14 [] false w args ∧ laidMetH Tryd.prog Rows.fnSpecialTitleStayRow.laid w) ∧ sizedMet enc Tryd.prog Tryd.f14 (OpenSpec.ofChange Rows.fnSpecialTitleStaySpec) false w args)
      (Rows.fnSpecialTitleStaySpec.post enc Tryd.prog Tryd.f14 false true false false) := by
  refine returnsInHanded_of_change_and (C := Tryd.checked) (X := fun w _ => laidMetH Tryd.prog Rows.fnSpecialTitleStayRow.laid w) (fun _ _ _ hh h => h.of_heap hh) own started (by kernel_rfl) Tryd.func14
    (ChangeSpec.witness_shaped (enc := enc) (C := Tryd.checked) (os := os) (X := fun w _ => laidMetH Tryd.prog Rows.fnSpecialTitleStayRow.laid w) false (World.laidAll Tryd.prog os lay) #[.slice none 0 0] 8 (World.laidAll_os _ _ _)
      (wit_shaped os) (by kernel_rfl) (by kernel_rfl) (by kernel_rfl) (wit_laid os)) ?_
  intro W base args ds gs before hval0 hW _ _ hL _
  have hval : ∀ (j : Nat) t v, Tryd.f14.params[j]? = some t → args[j]? = some v → Value.okWide Tryd.prog W .any base t v := hval0
  have hW' := hW
  obtain ⟨p, q, hA0, hV, rfl, _, _⟩ := hW
  have hA : DataW.TrodAll enc Tryd.prog W 0 (fun _ => true) true Tryd.f14.params.toList args.toList ds p := hA0
  rw [Tryd.params14] at hA hval
  obtain ⟨v0, d0, rfl, rfl, h0⟩ := trodAll_one hA
  obtain ⟨rfl, rfl⟩ := trodVars_none hV
  obtain ⟨a0, len0, cap0, rfl⟩ := okWide_slice Tryd.underlying22 (hval 0 22 v0 rfl rfl)
  have lt0 : ∀ x ∈ p, x.block < W.heap.size := by obtain ⟨m, hm⟩ := h0; exact DataW.trod_lt m _ _ _ hm
  have hL' : laidMetH Tryd.prog lay W := hL
  rw [MakeChecks.laidMetH_plain _ _ _ lay_plain] at hL'
  have hT : CV W caseS := cv_of_reads (Lib.laidMet.reads hL' (.head _))
  refine (law a0 len0 cap0 W (bytes_of h0) hT).mono fun e W' ⟨he, bel⟩ => ?_
  subst he
  exact ⟨_, rfl, _, _, _, [], _, [], hW', trodAll_mk1 (shut_bool Tryd.underlying4 _), trodAll_mk1 (Below.trod laidOut (by kernel_rfl) (of_decide_eq_true (by kernel_rfl)) h0 bel lt0), rfl, bel.frame _, fun h => by cases h⟩

theorem said : Rows.FnSpecialTitleStaySaid :=
  OpenClaim.holds_of_wide 14 Tryd.f14 rfl rfl rfl rfl rfl rfl rfl ⟨rfl, rfl, rfl, rfl, rfl⟩ rfl rfl rfl rfl rfl (by kernel_rfl) Tryd.func14 (by kernel_rfl)
    (of_decide_eq_true (by kernel_rfl)) (by unfold Func.isWrapper; first | (rw [if_pos (by decide +kernel)]; kernel_rfl) | (rw [if_neg (by decide +kernel)]; exact ⟨rfl, rfl⟩))
    (fun os started H enc _ => lifted os started H enc)
theorem plain (f : FuncId) (fn : Func) (hf : Tryd.pinned.checked.prog.funcNamed Rows.fnSpecialTitleStayRow.func = some f) (hfn : Tryd.pinned.checked.prog.funcs[f]? = some fn) :
    false = Tryd.pinned.checked.prog.looks [] ∧ ∀ (j : Nat) t, fn.params[j]? = some t → Tryd.pinned.checked.prog.wantsStandIn t = false := by
  obtain rfl : f = 14 := Option.some.inj ((show Tryd.prog.funcNamed Rows.fnSpecialTitleStayRow.func = some 14 by kernel_rfl).symm.trans hf) |>.symm
  obtain rfl : fn = Tryd.f14 := (Option.some.inj (Tryd.func14.symm.trans hfn)).symm
  refine ⟨by kernel_rfl, fun j t ht => ?_⟩
  rw [Tryd.params14] at ht
  obtain rfl : t = 22 := by simpa using Array.mem_of_getElem? ht
  exact (show Tryd.prog.wantsStandIn 22 = false by kernel_rfl)
/-- The card. -/
theorem holds : Rows.FnSpecialTitleStayCardSaid :=
  Claim7.holds_tied_plain_at .later [] _ _ _ _ said (fun _ h => by cases h) (by kernel_rfl) (fun _ h => by cases h) fnSpecialTitleStay_row_tie rfl ⟨rfl, rfl⟩ (by kernel_rfl) rfl plain (by kernel_rfl)
#print axioms holds
end Go.Proofs.YtfcalmjojmfooaaDoor.lFnSpecialTitleStay
