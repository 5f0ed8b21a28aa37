/-
  THE STATEMENT FnSpecialTitleNone: with no ranges each number has the title case of the standard; and by a delta of 1 the number 0 becomes 1.
  For every input of bytes the law returns true, and the input reads afterwards as it read before. Conditions: those of the given row alone (unicode.CaseRanges reads as the pinned table when the call begins).
-/
import Derived.Test.YtfcalmjojmfooaaDoorCards
import Derived.Test.YtfcalmjojmfooaaDoorTie
import Derived.Test.YtfcalmjojmfooaaDoorWit
import Derived.Test.YtfcalmjojmfooaaDoorOne
import Derived.Test.YtfcalmjojmfooaaDoorNum
namespace Go.Proofs.YtfcalmjojmfooaaDoor.lFnSpecialTitleNone
open Go.RowKit Go.ChangeShapes Go.WideShapes Go.ChangeAt
set_option linter.unusedVariables false

set_option maxHeartbeats 2000000 in
set_option maxRecDepth 100000 in
theorem law (A : Option Addr) (len cap : Nat) (w : World) (hby : BytesArg w A len) (hV : CV w caseS) :
    Calls Tryd.prog 13 #[.slice A len cap] w fun e w' => e = .returned (.bool true) ∧ Below w.heap.size w w' := by
  by_cases hlen : len ≤ 1048576
  case neg =>
    go_enter Tryd.func13, Tryd.ntmps13
    go_wp2
    go_ret
    exact ⟨rfl, Below.refl _ _⟩
  have HZ := Lib.hid (oneTitle ⟨48, 48, 1, 1, 1⟩ 48 49 w (by unfold Row.wf; decide) (by unfold Row.ok; decide) (by decide) (by simp [wrap32, conv, Row.delta]) hV)
  go_enter Tryd.func13, Tryd.ntmps13
  go_wp2_with fail
  refine HZ.out.mono ?_
  rintro e w0 ⟨rfl, hb0⟩
  have HV0 := Lib.hid (hV.below hb0)
  have HB0 := Lib.hid hb0
  have HD := Lib.hid (number_any A len cap w0 ((hby.below hb0).bytes hlen))
  clear HZ hb0 hV hby
  go_wp2_with fail
  refine HD.out.mono ?_
  rintro e w1 ⟨r, rfl, hr1, hr2, hb1⟩
  have HL1 : Hid (LInv w w1 none []) := Lib.hid ⟨(fun h => absurd h (by simp)), HV0.out.below hb1, HB0.out.trans (hb1.mono HB0.out.size)⟩
  clear hb1 HV0 HB0 HD
  have HY : Hid (∀ wx, CV wx caseS → Calls Tryd.prog 27 #[.slice none 0 0, .int .i32 r] wx fun e w' => e = .returned (.int .i32 (std caseS 2 r)) ∧ Below wx.heap.size wx w') :=
    Lib.hid fun wx hx => SpecialTitle_any none 0 [] caseS r wx (fun h => absurd h (by simp)) Wf_nil Srt_nil hx caseS_ok hr1

  have HTo : Hid (∀ wx, CV wx caseS → Calls Tryd.prog 26 #[.int .i32 r] wx fun e w' => e = .returned (.int .i32 (std caseS 2 r)) ∧ Below wx.heap.size wx w') := Lib.hid fun wx hx => implToTitle_any r caseS wx hx caseS_ok hr1

  generalize std caseS 2 r = y at HY HTo
  go_wp2_with fail
  refine (HY.out w1 HL1.out.cv).mono ?_
  rintro e w2 ⟨rfl, hb2⟩
  have HL2 := Lib.hid (HL1.out.below hb2)
  clear hb2 HL1

  go_wp2_with fail
  refine (HTo.out w2 HL2.out.cv).mono ?_
  rintro e w3 ⟨rfl, hb3⟩
  have HL3 := Lib.hid (HL2.out.below hb3)
  clear hb3 HL2

  have HB := Lib.hid HL3.out.bel
  go_wp2
  go_ret
  exact ⟨rfl, HB.out⟩

/-! ### the row, and the card -/
set_option maxRecDepth 100000 in
theorem lifted (os : Os) (started : os.Started) (H : Type) (enc : TypeId × Value → H) :
    ReturnsInHanded {} Tryd.checked os 13 .any (fun w args => (Rows.fnSpecialTitleNoneSpec.pre enc Tryd.prog Tryd.f13 [] false w args ∧ laidMetH Tryd.prog Rows.fnSpecialTitleNoneRow.laid w) ∧ sizedMet enc Tryd.prog Tryd.f13 (OpenSpec.ofChange Rows.fnSpecialTitleNoneSpec) false w args)
      (Rows.fnSpecialTitleNoneSpec.post enc Tryd.prog Tryd.f13 false true false false) := by
  refine returnsInHanded_of_change_and (C := Tryd.checked) (X := fun w _ => laidMetH Tryd.prog Rows.fnSpecialTitleNoneRow.laid w) (fun _ _ _ hh h => h.of_heap hh) own started (by kernel_rfl) Tryd.func13
    (ChangeSpec.witness_shaped (enc := enc) (C := Tryd.checked) (os := os) (X := fun w _ => laidMetH Tryd.prog Rows.fnSpecialTitleNoneRow.laid w) false (World.laidAll Tryd.prog os lay) #[.slice none 0 0] 8 (World.laidAll_os _ _ _)
      (wit_shaped os) (by kernel_rfl) (by kernel_rfl) (by kernel_rfl) (wit_laid os)) ?_
  intro W base args ds gs before hval0 hW _ _ hL _
  have hval : ∀ (j : Nat) t v, Tryd.f13.params[j]? = some t → args[j]? = some v → Value.okWide Tryd.prog W .any base t v := hval0
  have hW' := hW
  obtain ⟨p, q, hA0, hV, rfl, _, _⟩ := hW
  have hA : DataW.TrodAll enc Tryd.prog W 0 (fun _ => true) true Tryd.f13.params.toList args.toList ds p := hA0
  rw [Tryd.params13] at hA hval
  obtain ⟨v0, d0, rfl, rfl, h0⟩ := trodAll_one hA
  obtain ⟨rfl, rfl⟩ := trodVars_none hV
  obtain ⟨a0, len0, cap0, rfl⟩ := okWide_slice Tryd.underlying22 (hval 0 22 v0 rfl rfl)
  have lt0 : ∀ x ∈ p, x.block < W.heap.size := by obtain ⟨m, hm⟩ := h0; exact DataW.trod_lt m _ _ _ hm
  have hL' : laidMetH Tryd.prog lay W := hL
  rw [MakeChecks.laidMetH_plain _ _ _ lay_plain] at hL'
  have hT : CV W caseS := cv_of_reads (Lib.laidMet.reads hL' (.head _))
  refine (law a0 len0 cap0 W (bytes_of h0) hT).mono fun e W' ⟨he, bel⟩ => ?_
  subst he
  exact ⟨_, rfl, _, _, _, [], _, [], hW', trodAll_mk1 (shut_bool Tryd.underlying4 _), trodAll_mk1 (Below.trod laidOut (by kernel_rfl) (of_decide_eq_true (by kernel_rfl)) h0 bel lt0), rfl, bel.frame _, fun h => by cases h⟩

theorem said : Rows.FnSpecialTitleNoneSaid :=
  OpenClaim.holds_of_wide 13 Tryd.f13 rfl rfl rfl rfl rfl rfl rfl ⟨rfl, rfl, rfl, rfl, rfl⟩ rfl rfl rfl rfl rfl (by kernel_rfl) Tryd.func13 (by kernel_rfl)
    (of_decide_eq_true (by kernel_rfl)) (by unfold Func.isWrapper; first | (rw [if_pos (by decide +kernel)]; kernel_rfl) | (rw [if_neg (by decide +kernel)]; exact ⟨rfl, rfl⟩))
    (fun os started H enc _ => lifted os started H enc)
theorem plain (f : FuncId) (fn : Func) (hf : Tryd.pinned.checked.prog.funcNamed Rows.fnSpecialTitleNoneRow.func = some f) (hfn : Tryd.pinned.checked.prog.funcs[f]? = some fn) :
    false = Tryd.pinned.checked.prog.looks [] ∧ ∀ (j : Nat) t, fn.params[j]? = some t → Tryd.pinned.checked.prog.wantsStandIn t = false := by
  obtain rfl : f = 13 := Option.some.inj ((show Tryd.prog.funcNamed Rows.fnSpecialTitleNoneRow.func = some 13 by kernel_rfl).symm.trans hf) |>.symm
  obtain rfl : fn = Tryd.f13 := (Option.some.inj (Tryd.func13.symm.trans hfn)).symm
  refine ⟨by kernel_rfl, fun j t ht => ?_⟩
  rw [Tryd.params13] at ht
  obtain rfl : t = 22 := by simpa using Array.mem_of_getElem? ht
  exact (show Tryd.prog.wantsStandIn 22 = false by kernel_rfl)
/-- The card. -/
theorem holds : Rows.FnSpecialTitleNoneCardSaid :=
  Claim7.holds_tied_plain_at .later [] _ _ _ _ said (fun _ h => by cases h) (by kernel_rfl) (fun _ h => by cases h) fnSpecialTitleNone_row_tie rfl ⟨rfl, rfl⟩ (by kernel_rfl) rfl plain (by kernel_rfl)
#print axioms holds
end Go.Proofs.YtfcalmjojmfooaaDoor.lFnSpecialTitleNone
