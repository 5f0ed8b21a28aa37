/-
  THE STATEMENT FnExactSpecialUpper: SpecialUpper equals the reference for all valid case mappings and all numbers, where numbers of no range are mapped by the standard.
  For every list and every number the law returns true, and the arguments read afterwards as they read before. Conditions: those of the given row alone (unicode.CaseRanges reads as the pinned table when the call begins).
-/
import Derived.Test.YtfcalmjojmfooaaDoorCards
import Derived.Test.YtfcalmjojmfooaaDoorTie
import Derived.Test.YtfcalmjojmfooaaDoorWit
import Derived.Test.YtfcalmjojmfooaaDoorArgs
import Derived.Test.YtfcalmjojmfooaaDoorWiu
namespace Go.Proofs.YtfcalmjojmfooaaDoor.lFnExactSpecialUpper
open Go.RowKit Go.ChangeShapes Go.WideShapes Go.ChangeAt
set_option linter.unusedVariables false

set_option maxHeartbeats 2000000 in
set_option maxRecDepth 100000 in
theorem law (A1 : Option Addr) (c1 : Nat) (T : List Row) (r : Int) (w : World) (hLst : Lst w A1 T) (hwf : Wf T) (hlen : T.length ≤ 7036874417766) (hr1 : -2147483648 ≤ r) (hr2 : r ≤ 2147483647) (hV : CV w caseS) :
    Calls Tryd.prog 8 #[.slice A1 T.length c1, .int .i32 r] w fun e w' => e = .returned (.bool true) ∧ Below w.heap.size w w' := by
  have HL : Hid (LInv w w A1 T) := Lib.hid ⟨hLst, hV, Below.refl _ _⟩
  have HWf := Lib.hid hwf
  have HVd := Lib.hid (valid_any A1 c1 T w hLst hwf hlen)
  clear hLst hwf hV
  cases hv : validB T with
  | false =>
    rw [hv] at HVd
    clear hv
    go_enter Tryd.func8, Tryd.ntmps8
    go_wp2_with fail
    refine HVd.out.mono ?_
    rintro e w2 ⟨rfl, hb2⟩
    have HB := Lib.hid (HL.out.below hb2).bel
    clear hb2
    go_wp2
    go_ret
    exact ⟨rfl, HB.out⟩
  | true =>
    rw [hv] at HVd
    have HS := Lib.hid (valid_srt HWf.out hv)
    have Hv := Lib.hid hv
    clear hv
    go_enter Tryd.func8, Tryd.ntmps8
    go_wp2_with fail
    refine HVd.out.mono ?_
    rintro e w2 ⟨rfl, hb2⟩
    have HL2 := Lib.hid (HL.out.below hb2)
    clear hb2 HL HVd
    have HYUpper : Hid (∀ (wx : World) (q y : Int), LInv w wx A1 T → -2147483648 ≤ q → sp (std caseS 0) 0 T q = y → Calls Tryd.prog 15 #[.slice A1 T.length c1, .int .i32 q] wx fun e w' => e = .returned (.int .i32 y) ∧ Below wx.heap.size wx w') :=
      Lib.hid fun wx q y hx hq he => he ▸ SpecialUpper_any A1 c1 T caseS q wx hx.lst HWf.out HS.out hx.cv caseS_ok hq

    have HTo : Hid (∀ wx, CV wx caseS → Calls Tryd.prog 28 #[.int .i32 r] wx fun e w' => e = .returned (.int .i32 (std caseS 0 r)) ∧ Below wx.heap.size wx w') := Lib.hid fun wx hx => implToUpper_any r caseS wx hx caseS_ok hr1

    have hM := map_any A1 c1 T r 0 (by omega) w2 HL2.out.lst HWf.out Hv.out hr1 hr2
    unfold mapT at hM
    cases hi : ofN T r with
    | none =>
      rw [hi] at hM
      simp only at hM
      have HM := Lib.hid hM
      have E0 : Hid (sp (std caseS 0) 0 T r = std caseS 0 r) := Lib.hid (sp_none (by rw [find_of, hi]; rfl))
      generalize std caseS 0 r = y at E0 HTo
      clear hi hM
      go_wp2_with fail
      refine HM.out.mono ?_
      rintro e w3 ⟨rfl, hb3⟩
      have HL3 := Lib.hid (HL2.out.below hb3)
      clear hb3 HL2 HM
      go_wp2_with fail
      refine (HTo.out w3 HL3.out.cv).mono ?_
      rintro e w4 ⟨rfl, hb4⟩
      have HL4 := Lib.hid (HL3.out.below hb4)
      clear hb4 HL3

      go_wp2_with fail
      refine (HYUpper.out w4 r y HL4.out hr1 E0.out).mono ?_
      rintro e w5 ⟨rfl, hb5⟩
      have HL5 := Lib.hid (HL4.out.below hb5)
      clear hb5 HL4

      have HB := Lib.hid HL5.out.bel
      go_wp2
      go_ret
      exact ⟨rfl, HB.out⟩

    | some i =>
      rw [hi] at hM
      simp only at hM
      obtain ⟨hil, hh⟩ := ofN_get hi
      have hm := getD_mem hil
      have hg := valid_good Hv.out hm
      obtain ⟨e1, e2, e3⟩ := conv_map (good_ok (HWf.out _ hm) hg) hg hh (c := 0) (by omega)
      have E0 : Hid (sp (std caseS 0) 0 T r = mapV (T.getD i z5) r 0) := Lib.hid (by
        rw [← e1]
        exact sp_some (by rw [find_of, hi]; rfl))
      generalize mapV (T.getD i z5) r 0 = y at hM E0
      have HM := Lib.hid hM
      clear hi hM hh hm hg e1 e2 e3
      go_wp2_with fail
      refine HM.out.mono ?_
      rintro e w3 ⟨rfl, hb3⟩
      have HL3 := Lib.hid (HL2.out.below hb3)
      clear hb3 HL2 HM
      go_wp2_with fail
      refine (HYUpper.out w3 r y HL3.out hr1 E0.out).mono ?_
      rintro e w4 ⟨rfl, hb4⟩
      have HL4 := Lib.hid (HL3.out.below hb4)
      clear hb4 HL3

      have HB := Lib.hid HL4.out.bel
      go_wp2
      go_ret
      exact ⟨rfl, HB.out⟩

/-! ### the row, and the card -/
set_option maxRecDepth 100000 in
theorem lifted (os : Os) (started : os.Started) (H : Type) (enc : TypeId × Value → H) :
    ReturnsInHanded {} Tryd.checked os 8 .any (fun w args => (Rows.fnExactSpecialUpperSpec.pre enc Tryd.prog Tryd.f8 [] false w args ∧ laidMetH Tryd.prog Rows.fnExactSpecialUpperRow.laid w) ∧ sizedMet enc Tryd.prog Tryd.f8 (OpenSpec.ofChange Rows.fnExactSpecialUpperSpec) false w args)
      (Rows.fnExactSpecialUpperSpec.post enc Tryd.prog Tryd.f8 false true false false) := by
  refine returnsInHanded_of_change_and (C := Tryd.checked) (X := fun w _ => laidMetH Tryd.prog Rows.fnExactSpecialUpperRow.laid w) (fun _ _ _ hh h => h.of_heap hh) own started (by kernel_rfl) Tryd.func8
    (ChangeSpec.witness_shaped (enc := enc) (C := Tryd.checked) (os := os) (X := fun w _ => laidMetH Tryd.prog Rows.fnExactSpecialUpperRow.laid w) false (World.laidAll Tryd.prog os lay) #[.slice none 0 0, .int .i32 0] 8 (World.laidAll_os _ _ _)
      (wit_shaped2 os) (by kernel_rfl) (by kernel_rfl) (by kernel_rfl) (wit_laid2 os)) ?_
  intro W base args ds gs before hval0 hW _ hsz0 hL _
  have hval : ∀ (j : Nat) t v, Tryd.f8.params[j]? = some t → args[j]? = some v → Value.okWide Tryd.prog W .any base t v := hval0
  have hW' := hW
  obtain ⟨p, q, hA0, hV, rfl, _, _⟩ := hW
  have hA : DataW.TrodAll enc Tryd.prog W 0 (fun _ => true) true Tryd.f8.params.toList args.toList ds p := hA0
  have hsz : (DataW.weightsEach Tryd.prog (Tryd.f8.params.toList ++ Rows.fnExactSpecialUpperSpec.plain.varTypes Tryd.prog) (ds ++ gs)).all (· ≤ reachBytes) = true := hsz0
  rw [Tryd.params8] at hA hval hsz
  obtain ⟨v0, v1, d0, d1, p0, p1, rfl, rfl, rfl, h0, h1⟩ := trodAll_two hA
  obtain ⟨rfl, rfl⟩ := trodVars_none hV
  obtain ⟨a0, len0, cap0, rfl⟩ := okWide_slice Tryd.underlying28 (hval 0 28 v0 rfl rfl)
  obtain ⟨x1, rfl, rfl, rfl, wx⟩ := open_int Tryd.underlying21 (hval 1 21 v1 rfl rfl) h1
  have lt0 : ∀ x ∈ p0, x.block < W.heap.size := by obtain ⟨m, hm⟩ := h0; exact DataW.trod_lt m _ _ _ hm
  have hL' : laidMetH Tryd.prog lay W := hL
  rw [MakeChecks.laidMetH_plain _ _ _ lay_plain] at hL'
  have hT : CV W caseS := cv_of_reads (Lib.laidMet.reads hL' (.head _))
  obtain ⟨T, rfl, hLst, hwf, hlen⟩ := lst_of h0
  have hb : T.length ≤ 7036874417766 := by
    rcases hlen with h | ⟨es, rs, rfl, hes⟩
    · omega
    · have := sized_slice hsz (j := 0) (t := 28) (e := 27) rfl rfl Tryd.underlying28
      rw [bytesR2] at this
      simp only [reachBytes] at this
      omega
  have hr := bd_i32 wx
  refine (law a0 cap0 T x1 W hLst hwf hb hr.1 hr.2 hT).mono fun e W' ⟨he, bel⟩ => ?_
  subst he
  exact ⟨_, rfl, _, _, _, [], _, [], hW', trodAll_mk1 (shut_bool Tryd.underlying4 _), trodAll_mk2 (Below.trod laidOut (by kernel_rfl) (of_decide_eq_true (by kernel_rfl)) h0 bel lt0) (shut_int Tryd.underlying21 wx), rfl, bel.frame _, fun h => by cases h⟩

theorem said : Rows.FnExactSpecialUpperSaid :=
  OpenClaim.holds_of_wide 8 Tryd.f8 rfl rfl rfl rfl rfl rfl rfl ⟨rfl, rfl, rfl, rfl, rfl⟩ rfl rfl rfl rfl rfl (by kernel_rfl) Tryd.func8 (by kernel_rfl)
    (of_decide_eq_true (by kernel_rfl)) (by unfold Func.isWrapper; first | (rw [if_pos (by decide +kernel)]; kernel_rfl) | (rw [if_neg (by decide +kernel)]; exact ⟨rfl, rfl⟩))
    (fun os started H enc _ => lifted os started H enc)
theorem plain (f : FuncId) (fn : Func) (hf : Tryd.pinned.checked.prog.funcNamed Rows.fnExactSpecialUpperRow.func = some f) (hfn : Tryd.pinned.checked.prog.funcs[f]? = some fn) :
    false = Tryd.pinned.checked.prog.looks [] ∧ ∀ (j : Nat) t, fn.params[j]? = some t → Tryd.pinned.checked.prog.wantsStandIn t = false := by
  obtain rfl : f = 8 := Option.some.inj ((show Tryd.prog.funcNamed Rows.fnExactSpecialUpperRow.func = some 8 by kernel_rfl).symm.trans hf) |>.symm
  obtain rfl : fn = Tryd.f8 := (Option.some.inj (Tryd.func8.symm.trans hfn)).symm
  refine ⟨by kernel_rfl, fun j t ht => ?_⟩
  rw [Tryd.params8] at ht
  have hm : t ∈ [28, 21] := by simpa using Array.mem_of_getElem? ht
  have hall : ([28, 21].all fun u => !Tryd.prog.wantsStandIn u) = true := by kernel_rfl
  exact (show Tryd.prog.wantsStandIn t = false by simpa using List.all_eq_true.1 hall t hm)
/-- The card. -/
theorem holds : Rows.FnExactSpecialUpperCardSaid :=
  Claim7.holds_tied_plain_at .later [] _ _ _ _ said (fun _ h => by cases h) (by kernel_rfl) (fun _ h => by cases h) fnExactSpecialUpper_row_tie rfl ⟨rfl, rfl⟩ (by kernel_rfl) rfl plain (by kernel_rfl)
#print axioms holds
end Go.Proofs.YtfcalmjojmfooaaDoor.lFnExactSpecialUpper
