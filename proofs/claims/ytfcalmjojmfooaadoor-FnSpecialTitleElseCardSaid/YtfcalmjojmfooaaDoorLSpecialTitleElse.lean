/-
  THE STATEMENT FnSpecialTitleElse: a number of no range has the title case of the standard; and by a delta of 1 the number 0 becomes 1.
  For every input of bytes the law returns true, and the input reads afterwards as it read before. Conditions: those of the given row alone (unicode.CaseRanges reads as the pinned table when the call begins).
-/
import Derived.Test.YtfcalmjojmfooaaDoorCards
import Derived.Test.YtfcalmjojmfooaaDoorTie
import Derived.Test.YtfcalmjojmfooaaDoorWit
import Derived.Test.YtfcalmjojmfooaaDoorOne
namespace Go.Proofs.YtfcalmjojmfooaaDoor.lFnSpecialTitleElse
open Go.RowKit Go.ChangeShapes Go.WideShapes Go.ChangeAt
set_option linter.unusedVariables false

set_option maxHeartbeats 2000000 in
set_option maxRecDepth 100000 in
theorem law (A : Option Addr) (len cap : Nat) (w : World) (hby : BytesArg w A len) (hV : CV w caseS) :
    Calls Tryd.prog 12 #[.slice A len cap] w fun e w' => e = .returned (.bool true) ∧ Below w.heap.size w w' := by
  by_cases hlen : len ≤ 1048576
  case neg =>
    go_enter Tryd.func12, Tryd.ntmps12
    go_wp2
    go_ret
    exact ⟨rfl, Below.refl _ _⟩
  have HZ := Lib.hid (oneTitle ⟨48, 48, 1, 1, 1⟩ 48 49 w (by unfold Row.wf; decide) (by unfold Row.ok; decide) (by decide) (by simp [wrap32, conv, Row.delta]) hV)
  go_enter Tryd.func12, Tryd.ntmps12
  go_wp2_with fail
  refine HZ.out.mono ?_
  rintro e w0 ⟨rfl, hb0⟩
  have HV0 := Lib.hid (hV.below hb0)
  have HB0 := Lib.hid hb0
  have HD := Lib.hid (draw_any A len cap w0 ((hby.below hb0).bytes hlen))
  clear HZ hb0 hV hby
  go_wp2_with fail
  refine HD.out.mono ?_
  rintro e w1 ⟨A1, c1, T, r, rfl, hL, hwf, hT, hr1, hr2, hcp, hb1⟩
  have HCp := Lib.hid hcp
  clear hcp
  have HL : Hid (LInv w w1 A1 T) := Lib.hid ⟨hL, HV0.out.below hb1, HB0.out.trans (hb1.mono HB0.out.size)⟩
  have HWf := Lib.hid hwf
  clear hL hwf hb1 HV0 HB0
  clear HD
  have HVd := Lib.hid (valid_any A1 c1 T w1 HL.out.lst HWf.out (by omega))
  cases hv : validB T with
  | false =>
    rw [hv] at HVd
    clear hv
    go_wp2_with fail
    refine HVd.out.mono ?_
    rintro e w2 ⟨rfl, hb2⟩
    have HB := Lib.hid (HL.out.below hb2).bel
    clear hb2
    go_wp2
    go_ret
    exact ⟨rfl, HB.out⟩
  | true =>
    rw [hv] at HVd
    have HS := Lib.hid (valid_srt HWf.out hv)
    have Hv := Lib.hid hv
    clear hv
    go_wp2_with fail
    refine HVd.out.mono ?_
    rintro e w2 ⟨rfl, hb2⟩
    have HL2 := Lib.hid (HL.out.below hb2)
    clear hb2 HL HVd
    have hO := of_any A1 c1 T r w2 HL2.out.lst HWf.out (by omega) hr1 hr2
    unfold ofI at hO
    cases hi : ofN T r with
    | some i =>
      rw [hi] at hO
      simp only at hO
      have HO := Lib.hid hO
      clear hO hi
      have hiz : (0 : Int) ≤ (i : Int) := by omega
      go_wp2_with fail
      refine HO.out.mono ?_
      rintro e w3 ⟨rfl, rfl⟩
      have HB := Lib.hid HL2.out.bel
      go_wp2
      go_ret
      exact ⟨rfl, HB.out⟩

    | none =>
      rw [hi] at hO
      simp only at hO
      have HO := Lib.hid hO
      have E0 : Hid (sp (std caseS 2) 2 T r = std caseS 2 r) := Lib.hid (sp_none (by rw [find_of, hi]; rfl))
      clear hO hi
      have HYTitle : Hid (∀ (wx : World) (q y : Int), LInv w wx A1 T → -2147483648 ≤ q → sp (std caseS 2) 2 T q = y → Calls Tryd.prog 27 #[.slice A1 T.length c1, .int .i32 q] wx fun e w' => e = .returned (.int .i32 y) ∧ Below wx.heap.size wx w') :=
        Lib.hid fun wx q y hx hq he => he ▸ SpecialTitle_any A1 c1 T caseS q wx hx.lst HWf.out HS.out hx.cv caseS_ok hq

      have HTo : Hid (∀ wx, CV wx caseS → Calls Tryd.prog 26 #[.int .i32 r] wx fun e w' => e = .returned (.int .i32 (std caseS 2 r)) ∧ Below wx.heap.size wx w') := Lib.hid fun wx hx => implToTitle_any r caseS wx hx caseS_ok hr1

      generalize std caseS 2 r = y at E0 HTo
      go_wp2_with fail
      refine HO.out.mono ?_
      rintro e w3 ⟨rfl, rfl⟩

      go_wp2_with fail
      refine (HYTitle.out w2 r y HL2.out hr1 E0.out).mono ?_
      rintro e w3 ⟨rfl, hb3⟩
      have HL3 := Lib.hid (HL2.out.below hb3)
      clear hb3 HL2

      go_wp2_with fail
      refine (HTo.out w3 HL3.out.cv).mono ?_
      rintro e w4 ⟨rfl, hb4⟩
      have HL4 := Lib.hid (HL3.out.below hb4)
      clear hb4 HL3

      have HB := Lib.hid HL4.out.bel
      go_wp2
      go_ret
      exact ⟨rfl, HB.out⟩

/-! ### the row, and the card -/
set_option maxRecDepth 100000 in
theorem lifted (os : Os) (started : os.Started) (H : Type) (enc : TypeId × Value → H) :
    ReturnsInHanded {} Tryd.checked os 12 .any (fun w args => (Rows.fnSpecialTitleElseSpec.pre enc Tryd.prog Tryd.f12 [] false w args ∧ laidMetH Tryd.prog Rows.fnSpecialTitleElseRow.laid w) ∧ sizedMet enc Tryd.prog Tryd.f12 (OpenSpec.ofChange Rows.fnSpecialTitleElseSpec) false w args)
      (Rows.fnSpecialTitleElseSpec.post enc Tryd.prog Tryd.f12 false true false false) := by
  refine returnsInHanded_of_change_and (C := Tryd.checked) (X := fun w _ => laidMetH Tryd.prog Rows.fnSpecialTitleElseRow.laid w) (fun _ _ _ hh h => h.of_heap hh) own started (by kernel_rfl) Tryd.func12
    (ChangeSpec.witness_shaped (enc := enc) (C := Tryd.checked) (os := os) (X := fun w _ => laidMetH Tryd.prog Rows.fnSpecialTitleElseRow.laid w) false (World.laidAll Tryd.prog os lay) #[.slice none 0 0] 8 (World.laidAll_os _ _ _)
      (wit_shaped os) (by kernel_rfl) (by kernel_rfl) (by kernel_rfl) (wit_laid os)) ?_
  intro W base args ds gs before hval0 hW _ _ hL _
  have hval : ∀ (j : Nat) t v, Tryd.f12.params[j]? = some t → args[j]? = some v → Value.okWide Tryd.prog W .any base t v := hval0
  have hW' := hW
  obtain ⟨p, q, hA0, hV, rfl, _, _⟩ := hW
  have hA : DataW.TrodAll enc Tryd.prog W 0 (fun _ => true) true Tryd.f12.params.toList args.toList ds p := hA0
  rw [Tryd.params12] at hA hval
  obtain ⟨v0, d0, rfl, rfl, h0⟩ := trodAll_one hA
  obtain ⟨rfl, rfl⟩ := trodVars_none hV
  obtain ⟨a0, len0, cap0, rfl⟩ := okWide_slice Tryd.underlying22 (hval 0 22 v0 rfl rfl)
  have lt0 : ∀ x ∈ p, x.block < W.heap.size := by obtain ⟨m, hm⟩ := h0; exact DataW.trod_lt m _ _ _ hm
  have hL' : laidMetH Tryd.prog lay W := hL
  rw [MakeChecks.laidMetH_plain _ _ _ lay_plain] at hL'
  have hT : CV W caseS := cv_of_reads (Lib.laidMet.reads hL' (.head _))
  refine (law a0 len0 cap0 W (bytes_of h0) hT).mono fun e W' ⟨he, bel⟩ => ?_
  subst he
  exact ⟨_, rfl, _, _, _, [], _, [], hW', trodAll_mk1 (shut_bool Tryd.underlying4 _), trodAll_mk1 (Below.trod laidOut (by kernel_rfl) (of_decide_eq_true (by kernel_rfl)) h0 bel lt0), rfl, bel.frame _, fun h => by cases h⟩

theorem said : Rows.FnSpecialTitleElseSaid :=
  OpenClaim.holds_of_wide 12 Tryd.f12 rfl rfl rfl rfl rfl rfl rfl ⟨rfl, rfl, rfl, rfl, rfl⟩ rfl rfl rfl rfl rfl (by kernel_rfl) Tryd.func12 (by kernel_rfl)
    (of_decide_eq_true (by kernel_rfl)) (by unfold Func.isWrapper; first | (rw [if_pos (by decide +kernel)]; kernel_rfl) | (rw [if_neg (by decide +kernel)]; exact ⟨rfl, rfl⟩))
    (fun os started H enc _ => lifted os started H enc)
theorem plain (f : FuncId) (fn : Func) (hf : Tryd.pinned.checked.prog.funcNamed Rows.fnSpecialTitleElseRow.func = some f) (hfn : Tryd.pinned.checked.prog.funcs[f]? = some fn) :
    false = Tryd.pinned.checked.prog.looks [] ∧ ∀ (j : Nat) t, fn.params[j]? = some t → Tryd.pinned.checked.prog.wantsStandIn t = false := by
  obtain rfl : f = 12 := Option.some.inj ((show Tryd.prog.funcNamed Rows.fnSpecialTitleElseRow.func = some 12 by kernel_rfl).symm.trans hf) |>.symm
  obtain rfl : fn = Tryd.f12 := (Option.some.inj (Tryd.func12.symm.trans hfn)).symm
  refine ⟨by kernel_rfl, fun j t ht => ?_⟩
  rw [Tryd.params12] at ht
  obtain rfl : t = 22 := by simpa using Array.mem_of_getElem? ht
  exact (show Tryd.prog.wantsStandIn 22 = false by kernel_rfl)
/-- The card. -/
theorem holds : Rows.FnSpecialTitleElseCardSaid :=
  Claim7.holds_tied_plain_at .later [] _ _ _ _ said (fun _ h => by cases h) (by kernel_rfl) (fun _ h => by cases h) fnSpecialTitleElse_row_tie rfl ⟨rfl, rfl⟩ (by kernel_rfl) rfl plain (by kernel_rfl)
#print axioms holds
end Go.Proofs.YtfcalmjojmfooaaDoor.lFnSpecialTitleElse
