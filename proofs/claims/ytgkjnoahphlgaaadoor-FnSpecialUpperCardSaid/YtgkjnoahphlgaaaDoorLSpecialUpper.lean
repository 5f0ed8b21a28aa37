/-
  THE STATEMENT FnSpecialUpper: a number of a range has the upper case that the reference has.
  For every input of bytes the law returns true, and the input reads afterwards as it read before. Conditions: those of the given row alone (unicode.CaseRanges reads as the pinned table when the call begins).
-/
import Derived.Test.YtgkjnoahphlgaaaDoorCards
import Derived.Test.YtgkjnoahphlgaaaDoorTie
import Derived.Test.YtgkjnoahphlgaaaDoorWit
import Derived.Test.YtgkjnoahphlgaaaDoorLaw
namespace Go.Proofs.YtgkjnoahphlgaaaDoor.lFnSpecialUpper
open Go.RowKit Go.ChangeShapes Go.WideShapes Go.ChangeAt
set_option linter.unusedVariables false

set_option maxHeartbeats 2000000 in
set_option maxRecDepth 100000 in
theorem law (A : Option Addr) (len cap : Nat) (w : World) (hby : BytesArg w A len) (hV : CV w caseS) :
    Calls Tryd.prog 14 #[.slice A len cap] w fun e w' => e = .returned (.bool true) ∧ Below w.heap.size w w' := by
  by_cases hlen : len ≤ 1048576
  case neg =>
    go_enter Tryd.func14, Tryd.ntmps14
    go_wp2
    go_ret
    exact ⟨rfl, Below.refl _ _⟩
  have HD := Lib.hid (draw_any A len cap w (hby.bytes hlen))
  go_enter Tryd.func14, Tryd.ntmps14
  go_wp2_with fail
  refine HD.out.mono ?_
  rintro e w1 ⟨A1, c1, T, r, rfl, hL, hwf, hT, hr1, hr2, hcp, hb1⟩
  have HCp := Lib.hid hcp
  clear hcp
  have HL : Hid (LInv w w1 A1 T) := Lib.hid ⟨hL, hV.below hb1, hb1⟩
  have HWf := Lib.hid hwf
  clear hL hwf hb1 hV hby
  clear HD
  have HVd := Lib.hid (valid_any A1 c1 T w1 HL.out.lst HWf.out (by omega))
  cases hv : validB T with
  | false =>
    rw [hv] at HVd
    clear hv
    go_wp2_with fail
    refine HVd.out.mono ?_
    rintro e w2 ⟨rfl, hb2⟩
    have HB := Lib.hid (HL.out.below hb2).bel
    clear hb2
    go_wp2
    go_ret
    exact ⟨rfl, HB.out⟩
  | true =>
    rw [hv] at HVd
    have HS := Lib.hid (valid_srt HWf.out hv)
    have Hv := Lib.hid hv
    clear hv
    go_wp2_with fail
    refine HVd.out.mono ?_
    rintro e w2 ⟨rfl, hb2⟩
    have HL2 := Lib.hid (HL.out.below hb2)
    clear hb2 HL HVd
    have hM := map_any A1 c1 T r 0 (by omega) w2 HL2.out.lst HWf.out Hv.out hr1 hr2
    unfold mapT at hM
    cases hi : ofN T r with
    | none =>
      rw [hi] at hM
      simp only at hM
      have HM := Lib.hid hM
      clear hi hM
      go_wp2_with fail
      refine HM.out.mono ?_
      rintro e w3 ⟨rfl, hb3⟩
      have HB := Lib.hid (HL2.out.below hb3).bel
      clear hb3
      go_wp2
      go_ret
      exact ⟨rfl, HB.out⟩
    | some i =>
      rw [hi] at hM
      simp only at hM
      obtain ⟨hil, hh⟩ := ofN_get hi
      have hm := getD_mem hil
      have hg := valid_good Hv.out hm
      obtain ⟨e1, e2, e3⟩ := conv_map (good_ok (HWf.out _ hm) hg) hg hh (c := 0) (by omega)
      have e4 : sp (std caseS 0) 0 T r = mapV (T.getD i z5) r 0 := by
        rw [← e1]
        exact sp_some (by rw [find_of, hi]; rfl)
      have H4 : Hid (∀ w3, LInv w w3 A1 T → Calls Tryd.prog 25 #[.slice A1 T.length c1, .int .i32 r] w3 fun e w' => e = .returned (.int .i32 (mapV (T.getD i z5) r 0)) ∧ Below w3.heap.size w3 w') :=
        Lib.hid fun w3 h3 => e4 ▸ SpecialUpper_any A1 c1 T caseS r w3 h3.lst HWf.out HS.out h3.cv caseS_ok hr1
      generalize mapV (T.getD i z5) r 0 = y at hM H4
      have HM := Lib.hid hM
      clear hi hM hh hm hg e1 e2 e3 e4
      go_wp2_with fail
      refine HM.out.mono ?_
      rintro e w3 ⟨rfl, hb3⟩
      have HL3 := Lib.hid (HL2.out.below hb3)
      clear hb3 HL2
      go_wp2_with fail
      refine (H4.out w3 HL3.out).mono ?_
      rintro e w4 ⟨rfl, hb4⟩
      have HB := Lib.hid (HL3.out.below hb4).bel
      clear hb4
      go_wp2
      go_ret
      exact ⟨rfl, HB.out⟩

/-! ### the row, and the card -/
set_option maxRecDepth 100000 in
theorem lifted (os : Os) (started : os.Started) (H : Type) (enc : TypeId × Value → H) :
    ReturnsInHanded {} Tryd.checked os 14 .any (fun w args => (Rows.fnSpecialUpperSpec.pre enc Tryd.prog Tryd.f14 [] false w args ∧ laidMetH Tryd.prog Rows.fnSpecialUpperRow.laid w) ∧ sizedMet enc Tryd.prog Tryd.f14 (OpenSpec.ofChange Rows.fnSpecialUpperSpec) false w args)
      (Rows.fnSpecialUpperSpec.post enc Tryd.prog Tryd.f14 false true false false) := by
  refine returnsInHanded_of_change_and (C := Tryd.checked) (X := fun w _ => laidMetH Tryd.prog Rows.fnSpecialUpperRow.laid w) (fun _ _ _ hh h => h.of_heap hh) own started (by kernel_rfl) Tryd.func14
    (ChangeSpec.witness_shaped (enc := enc) (C := Tryd.checked) (os := os) (X := fun w _ => laidMetH Tryd.prog Rows.fnSpecialUpperRow.laid w) false (World.laidAll Tryd.prog os lay) #[.slice none 0 0] 8 (World.laidAll_os _ _ _)
      (wit_shaped os) (by kernel_rfl) (by kernel_rfl) (by kernel_rfl) (wit_laid os)) ?_
  intro W base args ds gs before hval0 hW _ _ hL _
  have hval : ∀ (j : Nat) t v, Tryd.f14.params[j]? = some t → args[j]? = some v → Value.okWide Tryd.prog W .any base t v := hval0
  have hW' := hW
  obtain ⟨p, q, hA0, hV, rfl, _, _⟩ := hW
  have hA : DataW.TrodAll enc Tryd.prog W 0 (fun _ => true) true Tryd.f14.params.toList args.toList ds p := hA0
  rw [Tryd.params14] at hA hval
  obtain ⟨v0, d0, rfl, rfl, h0⟩ := trodAll_one hA
  obtain ⟨rfl, rfl⟩ := trodVars_none hV
  obtain ⟨a0, len0, cap0, rfl⟩ := okWide_slice Tryd.underlying22 (hval 0 22 v0 rfl rfl)
  have lt0 : ∀ x ∈ p, x.block < W.heap.size := by obtain ⟨m, hm⟩ := h0; exact DataW.trod_lt m _ _ _ hm
  have hL' : laidMetH Tryd.prog lay W := hL
  rw [MakeChecks.laidMetH_plain _ _ _ lay_plain] at hL'
  have hT : CV W caseS := cv_of_reads (Lib.laidMet.reads hL' (.head _))
  refine (law a0 len0 cap0 W (bytes_of h0) hT).mono fun e W' ⟨he, bel⟩ => ?_
  subst he
  exact ⟨_, rfl, _, _, _, [], _, [], hW', trodAll_mk1 (shut_bool Tryd.underlying4 _), trodAll_mk1 (Below.trod laidOut (by kernel_rfl) (of_decide_eq_true (by kernel_rfl)) h0 bel lt0), rfl, bel.frame _, fun h => by cases h⟩

theorem said : Rows.FnSpecialUpperSaid :=
  OpenClaim.holds_of_wide 14 Tryd.f14 rfl rfl rfl rfl rfl rfl rfl ⟨rfl, rfl, rfl, rfl, rfl⟩ rfl rfl rfl rfl rfl (by kernel_rfl) Tryd.func14 (by kernel_rfl)
    (of_decide_eq_true (by kernel_rfl)) (by unfold Func.isWrapper; first | (rw [if_pos (by decide +kernel)]; kernel_rfl) | (rw [if_neg (by decide +kernel)]; exact ⟨rfl, rfl⟩))
    (fun os started H enc _ => lifted os started H enc)
theorem plain (f : FuncId) (fn : Func) (hf : Tryd.pinned.checked.prog.funcNamed Rows.fnSpecialUpperRow.func = some f) (hfn : Tryd.pinned.checked.prog.funcs[f]? = some fn) :
    false = Tryd.pinned.checked.prog.looks [] ∧ ∀ (j : Nat) t, fn.params[j]? = some t → Tryd.pinned.checked.prog.wantsStandIn t = false := by
  obtain rfl : f = 14 := Option.some.inj ((show Tryd.prog.funcNamed Rows.fnSpecialUpperRow.func = some 14 by kernel_rfl).symm.trans hf) |>.symm
  obtain rfl : fn = Tryd.f14 := (Option.some.inj (Tryd.func14.symm.trans hfn)).symm
  refine ⟨by kernel_rfl, fun j t ht => ?_⟩
  rw [Tryd.params14] at ht
  obtain rfl : t = 22 := by simpa using Array.mem_of_getElem? ht
  exact (show Tryd.prog.wantsStandIn 22 = false by kernel_rfl)
/-- The card. -/
theorem holds : Rows.FnSpecialUpperCardSaid :=
  Claim7.holds_tied_plain_at .later [] _ _ _ _ said (fun _ h => by cases h) (by kernel_rfl) (fun _ h => by cases h) fnSpecialUpper_row_tie rfl ⟨rfl, rfl⟩ (by kernel_rfl) rfl plain (by kernel_rfl)
#print axioms holds
end Go.Proofs.YtgkjnoahphlgaaaDoor.lFnSpecialUpper
