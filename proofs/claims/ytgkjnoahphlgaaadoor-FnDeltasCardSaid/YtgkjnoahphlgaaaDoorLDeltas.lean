/-
  THE STATEMENT FnDeltas: of a range of deltas all numbers are moved alike.
  For every input of bytes the law returns true, and the input reads afterwards as it read before. Conditions: those of the given row alone (unicode.CaseRanges reads as the pinned table when the call begins).
-/
import Derived.Test.YtgkjnoahphlgaaaDoorCards
import Derived.Test.YtgkjnoahphlgaaaDoorTie
import Derived.Test.YtgkjnoahphlgaaaDoorWit
import Derived.Test.YtgkjnoahphlgaaaDoorOne
namespace Go.Proofs.YtgkjnoahphlgaaaDoor.lFnDeltas
open Go.RowKit Go.ChangeShapes Go.WideShapes Go.ChangeAt
set_option linter.unusedVariables false

set_option maxHeartbeats 2000000 in
set_option maxRecDepth 100000 in
theorem law (A : Option Addr) (len cap : Nat) (w : World) (hby : BytesArg w A len) (hV : CV w caseS) :
    Calls Tryd.prog 9 #[.slice A len cap] w fun e w' => e = .returned (.bool true) ∧ Below w.heap.size w w' := by
  by_cases hlen : len ≤ 1048576
  case neg =>
    go_enter Tryd.func9, Tryd.ntmps9
    go_wp2
    go_ret
    exact ⟨rfl, Below.refl _ _⟩
  have HD := Lib.hid (draw_any A len cap w (hby.bytes hlen))
  go_enter Tryd.func9, Tryd.ntmps9
  go_wp2_with fail
  refine HD.out.mono ?_
  rintro e w1 ⟨A1, c1, T, r, rfl, hL, hwf, hT, hr1, hr2, hcp, hb1⟩
  have HCp := Lib.hid hcp
  clear hcp
  have HL : Hid (LInv w w1 A1 T) := Lib.hid ⟨hL, hV.below hb1, hb1⟩
  have HWf := Lib.hid hwf
  clear hL hwf hb1 hV hby
  clear HD
  have HVd := Lib.hid (valid_any A1 c1 T w1 HL.out.lst HWf.out (by omega))
  cases hv : validB T with
  | false =>
    rw [hv] at HVd
    clear hv
    go_wp2_with fail
    refine HVd.out.mono ?_
    rintro e w2 ⟨rfl, hb2⟩
    have HB := Lib.hid (HL.out.below hb2).bel
    clear hb2
    go_wp2
    go_ret
    exact ⟨rfl, HB.out⟩
  | true =>
    rw [hv] at HVd
    have HS := Lib.hid (valid_srt HWf.out hv)
    have Hv := Lib.hid hv
    clear hv
    go_wp2_with fail
    refine HVd.out.mono ?_
    rintro e w2 ⟨rfl, hb2⟩
    have HL2 := Lib.hid (HL.out.below hb2)
    clear hb2 HL HVd
    have hO := of_any A1 c1 T r w2 HL2.out.lst HWf.out (by omega) hr1 hr2
    unfold ofI at hO
    cases hi : ofN T r with
    | none =>
      rw [hi] at hO
      simp only at hO
      have HO := Lib.hid hO
      clear hO hi
      go_wp2_with fail
      refine HO.out.mono ?_
      rintro e w3 ⟨rfl, rfl⟩
      have HZ := Lib.hid (oneUpper ⟨65, 66, 2, 0, 0⟩ 66 68 w2 (by unfold Row.wf; decide) (by unfold Row.ok; decide) (by decide) (by simp [wrap32, conv, Row.delta]) HL2.out.cv)
      go_wp2_with fail
      refine HZ.out.mono ?_
      rintro e w9 ⟨rfl, hb9⟩
      have HB := Lib.hid (HL2.out.below hb9).bel
      clear hb9
      go_wp2
      go_ret
      exact ⟨rfl, HB.out⟩

    | some i =>
      rw [hi] at hO
      simp only at hO
      have HO := Lib.hid hO
      clear hO
      go_wp2_with fail
      refine HO.out.mono ?_
      rintro e w3 ⟨rfl, rfl⟩
      clear HO
      have HYUpper : Hid (∀ (wx : World) (q y : Int), LInv w wx A1 T → -2147483648 ≤ q → sp (std caseS 0) 0 T q = y → Calls Tryd.prog 25 #[.slice A1 T.length c1, .int .i32 q] wx fun e w' => e = .returned (.int .i32 y) ∧ Below wx.heap.size wx w') :=
        Lib.hid fun wx q y hx hq he => he ▸ SpecialUpper_any A1 c1 T caseS q wx hx.lst HWf.out HS.out hx.cv caseS_ok hq

      have HYLower : Hid (∀ (wx : World) (q y : Int), LInv w wx A1 T → -2147483648 ≤ q → sp (std caseS 1) 1 T q = y → Calls Tryd.prog 18 #[.slice A1 T.length c1, .int .i32 q] wx fun e w' => e = .returned (.int .i32 y) ∧ Below wx.heap.size wx w') :=
        Lib.hid fun wx q y hx hq he => he ▸ SpecialLower_any A1 c1 T caseS q wx hx.lst HWf.out HS.out hx.cv caseS_ok hq

      have HYTitle : Hid (∀ (wx : World) (q y : Int), LInv w wx A1 T → -2147483648 ≤ q → sp (std caseS 2) 2 T q = y → Calls Tryd.prog 22 #[.slice A1 T.length c1, .int .i32 q] wx fun e w' => e = .returned (.int .i32 y) ∧ Below wx.heap.size wx w') :=
        Lib.hid fun wx q y hx hq he => he ▸ SpecialTitle_any A1 c1 T caseS q wx hx.lst HWf.out HS.out hx.cv caseS_ok hq

      obtain ⟨hil, hh⟩ := ofN_get hi
      obtain ⟨b, o, x, hA1, hbb, hx, hm, k0, k1, k2, k3, k4⟩ := HL2.out.lst.at_ hil
      obtain rfl := hA1
      rw [hx] at hh
      have hg := valid_good Hv.out hm
      have hok := good_ok (HWf.out x hm) hg
      have hfi : T.find? (·.has r) = some x := by rw [find_of, hi]; simp only [Option.map_some]; rw [hx]

      have hiz : ¬ ((i : Int) < 0) := by omega
      have HB1 := byTurns_two x w2
      cases hbt : byT x with
      | true =>
        rw [hbt] at HB1
        have HB2 := Lib.hid HB1
        clear HB1 hbt hg hok hh hx hm hi hfi
        go_wp2_with fail
        refine HB2.out.mono ?_
        rintro e w4 ⟨rfl, hb4⟩
        have HL4 := Lib.hid (HL2.out.below hb4)
        clear hb4 HL2 HB2 k0 k1 k2 k3 k4
        have HZ := Lib.hid (oneUpper ⟨65, 66, 2, 0, 0⟩ 66 68 w4 (by unfold Row.wf; decide) (by unfold Row.ok; decide) (by decide) (by simp [wrap32, conv, Row.delta]) HL4.out.cv)
        go_wp2_with fail
        refine HZ.out.mono ?_
        rintro e w9 ⟨rfl, hb9⟩
        have HB := Lib.hid (HL4.out.below hb9).bel
        clear hb9
        go_wp2
        go_ret
        exact ⟨rfl, HB.out⟩

      | false =>
        rw [hbt] at HB1
        have HB2 := Lib.hid HB1
        have hbn : ¬ byT x = true := by simp [hbt]
        obtain ⟨o1, o2, o3⟩ := hok
        have hh2 := Row.has_iff.1 hh
        have hlo : x.has x.lo = true := Row.has_iff.2 ⟨by omega, by omega⟩
        have hfl : T.find? (·.has x.lo) = some x := srt_find HS.out hm hlo
        have hE : ∀ c, c < 3 → sp (std caseS c) c T r = r + x.delta c ∧ sp (std caseS c) c T x.lo = x.lo + x.delta c ∧ 0 ≤ x.lo + x.delta c ∧ x.hi + x.delta c ≤ 1114111 := fun c hc => by
          have hd := good_delta hg hbn c
          refine ⟨?_, ?_, hd.2.2.1, hd.2.2.2⟩
          · rw [sp_some hfi, conv_small hd.2.1, wrap32_id (by omega) (by omega)]
          · rw [sp_some hfl, conv_small hd.2.1, wrap32_id (by omega) (by omega)]
        obtain ⟨u1, u2, u3, u4⟩ := hE 0 (by omega)
        obtain ⟨v1, v2, v3, v4⟩ := hE 1 (by omega)
        obtain ⟨t1, t2, t3, t4⟩ := hE 2 (by omega)
        generalize x.delta 0 = d0 at u1 u2 u3 u4
        generalize x.delta 1 = d1 at v1 v2 v3 v4
        generalize x.delta 2 = d2 at t1 t2 t3 t4
        have U1 := Lib.hid u1
        have U2 := Lib.hid u2
        have V1 := Lib.hid v1
        have V2 := Lib.hid v2
        have T1 := Lib.hid t1
        have T2 := Lib.hid t2
        have k0' : ∀ wx, LInv w wx (some ⟨b, o, none⟩) T → wx.cell? ⟨b, o + i * 5, none⟩ = some (.int .u32 x.lo) := fun wx hwx => by
          obtain ⟨b2, o2', x2, hA2, -, hx2, -, q0, -, -, -, -⟩ := hwx.lst.at_ hil
          simp only [Option.some.injEq, Addr.mk.injEq] at hA2
          obtain ⟨rfl, rfl, -⟩ := hA2
          rw [hx] at hx2
          rw [hx2]
          exact q0
        have K0 := Lib.hid k0'
        have q1 : ((r + d0 - r) == (x.lo + d0 - x.lo)) = true := by rw [beq_iff_eq]; omega
        have q2 : ((r + d1 - r) == (x.lo + d1 - x.lo)) = true := by rw [beq_iff_eq]; omega
        have q3 : ((r + d2 - r) == (x.lo + d2 - x.lo)) = true := by rw [beq_iff_eq]; omega
        clear HB1 hbt hbn hg hh hx hm hi hfi hfl hlo hE u1 u2 v1 v2 t1 t2 k0'
        obtain ⟨h3, h4⟩ := hh2
        go_wp2_with fail
        refine HB2.out.mono ?_
        rintro e w4 ⟨rfl, hb4⟩
        have HL4 := Lib.hid (HL2.out.below hb4)
        have k5 := K0.out w4 HL4.out
        clear hb4 HL2 HB2 k0 k1 k2 k3 k4
        go_wp2_with fail
        refine (HYUpper.out w4 r _ HL4.out hr1 U1.out).mono ?_
        rintro e w5 ⟨rfl, hb5⟩
        have HL5 := Lib.hid (HL4.out.below hb5)
        clear hb5 HL4
        clear k5

        go_wp2_with fail
        refine (HYUpper.out w5 x.lo _ HL5.out (by omega) U2.out).mono ?_
        rintro e w6 ⟨rfl, hb6⟩
        have HL6 := Lib.hid (HL5.out.below hb6)
        clear hb6 HL5

        go_wp2_with fail
        refine (HYLower.out w6 r _ HL6.out hr1 V1.out).mono ?_
        rintro e w7 ⟨rfl, hb7⟩
        have HL7 := Lib.hid (HL6.out.below hb7)
        clear hb7 HL6

        go_wp2_with fail
        refine (HYLower.out w7 x.lo _ HL7.out (by omega) V2.out).mono ?_
        rintro e w8 ⟨rfl, hb8⟩
        have HL8 := Lib.hid (HL7.out.below hb8)
        clear hb8 HL7

        go_wp2_with fail
        refine (HYTitle.out w8 r _ HL8.out hr1 T1.out).mono ?_
        rintro e w9 ⟨rfl, hb9⟩
        have HL9 := Lib.hid (HL8.out.below hb9)
        clear hb9 HL8

        go_wp2_with fail
        refine (HYTitle.out w9 x.lo _ HL9.out (by omega) T2.out).mono ?_
        rintro e w10 ⟨rfl, hb10⟩
        have HL10 := Lib.hid (HL9.out.below hb10)
        clear hb10 HL9

        have HB := Lib.hid HL10.out.bel
        go_wp2
        go_ret
        exact ⟨rfl, HB.out⟩

/-! ### the row, and the card -/
set_option maxRecDepth 100000 in
theorem lifted (os : Os) (started : os.Started) (H : Type) (enc : TypeId × Value → H) :
    ReturnsInHanded {} Tryd.checked os 9 .any (fun w args => (Rows.fnDeltasSpec.pre enc Tryd.prog Tryd.f9 [] false w args ∧ laidMetH Tryd.prog Rows.fnDeltasRow.laid w) ∧ sizedMet enc Tryd.prog Tryd.f9 (OpenSpec.ofChange Rows.fnDeltasSpec) false w args)
      (Rows.fnDeltasSpec.post enc Tryd.prog Tryd.f9 false true false false) := by
  refine returnsInHanded_of_change_and (C := Tryd.checked) (X := fun w _ => laidMetH Tryd.prog Rows.fnDeltasRow.laid w) (fun _ _ _ hh h => h.of_heap hh) own started (by kernel_rfl) Tryd.func9
    (ChangeSpec.witness_shaped (enc := enc) (C := Tryd.checked) (os := os) (X := fun w _ => laidMetH Tryd.prog Rows.fnDeltasRow.laid w) false (World.laidAll Tryd.prog os lay) #[.slice none 0 0] 8 (World.laidAll_os _ _ _)
      (wit_shaped os) (by kernel_rfl) (by kernel_rfl) (by kernel_rfl) (wit_laid os)) ?_
  intro W base args ds gs before hval0 hW _ _ hL _
  have hval : ∀ (j : Nat) t v, Tryd.f9.params[j]? = some t → args[j]? = some v → Value.okWide Tryd.prog W .any base t v := hval0
  have hW' := hW
  obtain ⟨p, q, hA0, hV, rfl, _, _⟩ := hW
  have hA : DataW.TrodAll enc Tryd.prog W 0 (fun _ => true) true Tryd.f9.params.toList args.toList ds p := hA0
  rw [Tryd.params9] at hA hval
  obtain ⟨v0, d0, rfl, rfl, h0⟩ := trodAll_one hA
  obtain ⟨rfl, rfl⟩ := trodVars_none hV
  obtain ⟨a0, len0, cap0, rfl⟩ := okWide_slice Tryd.underlying22 (hval 0 22 v0 rfl rfl)
  have lt0 : ∀ x ∈ p, x.block < W.heap.size := by obtain ⟨m, hm⟩ := h0; exact DataW.trod_lt m _ _ _ hm
  have hL' : laidMetH Tryd.prog lay W := hL
  rw [MakeChecks.laidMetH_plain _ _ _ lay_plain] at hL'
  have hT : CV W caseS := cv_of_reads (Lib.laidMet.reads hL' (.head _))
  refine (law a0 len0 cap0 W (bytes_of h0) hT).mono fun e W' ⟨he, bel⟩ => ?_
  subst he
  exact ⟨_, rfl, _, _, _, [], _, [], hW', trodAll_mk1 (shut_bool Tryd.underlying4 _), trodAll_mk1 (Below.trod laidOut (by kernel_rfl) (of_decide_eq_true (by kernel_rfl)) h0 bel lt0), rfl, bel.frame _, fun h => by cases h⟩

theorem said : Rows.FnDeltasSaid :=
  OpenClaim.holds_of_wide 9 Tryd.f9 rfl rfl rfl rfl rfl rfl rfl ⟨rfl, rfl, rfl, rfl, rfl⟩ rfl rfl rfl rfl rfl (by kernel_rfl) Tryd.func9 (by kernel_rfl)
    (of_decide_eq_true (by kernel_rfl)) (by unfold Func.isWrapper; first | (rw [if_pos (by decide +kernel)]; kernel_rfl) | (rw [if_neg (by decide +kernel)]; exact ⟨rfl, rfl⟩))
    (fun os started H enc _ => lifted os started H enc)
theorem plain (f : FuncId) (fn : Func) (hf : Tryd.pinned.checked.prog.funcNamed Rows.fnDeltasRow.func = some f) (hfn : Tryd.pinned.checked.prog.funcs[f]? = some fn) :
    false = Tryd.pinned.checked.prog.looks [] ∧ ∀ (j : Nat) t, fn.params[j]? = some t → Tryd.pinned.checked.prog.wantsStandIn t = false := by
  obtain rfl : f = 9 := Option.some.inj ((show Tryd.prog.funcNamed Rows.fnDeltasRow.func = some 9 by kernel_rfl).symm.trans hf) |>.symm
  obtain rfl : fn = Tryd.f9 := (Option.some.inj (Tryd.func9.symm.trans hfn)).symm
  refine ⟨by kernel_rfl, fun j t ht => ?_⟩
  rw [Tryd.params9] at ht
  obtain rfl : t = 22 := by simpa using Array.mem_of_getElem? ht
  exact (show Tryd.prog.wantsStandIn 22 = false by kernel_rfl)
/-- The card. -/
theorem holds : Rows.FnDeltasCardSaid :=
  Claim7.holds_tied_plain_at .later [] _ _ _ _ said (fun _ h => by cases h) (by kernel_rfl) (fun _ h => by cases h) fnDeltas_row_tie rfl ⟨rfl, rfl⟩ (by kernel_rfl) rfl plain (by kernel_rfl)
#print axioms holds
end Go.Proofs.YtgkjnoahphlgaaaDoor.lFnDeltas
