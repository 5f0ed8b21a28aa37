/-
  THE STATEMENT FnTurns: of upper and lower case by turns upper and lower case of a number are one behind the other, and the number is one of both.
  For every input of bytes the law returns true, and the input reads afterwards as it read before. Conditions: those of the given row alone (unicode.CaseRanges reads as the pinned table when the call begins).
-/
import Derived.Test.YtklmigpcomnchaaDoorCards
import Derived.Test.YtklmigpcomnchaaDoorTie
import Derived.Test.YtklmigpcomnchaaDoorWit
import Derived.Test.YtklmigpcomnchaaDoorOne
namespace Go.Proofs.YtklmigpcomnchaaDoor.lFnTurns
open Go.RowKit Go.ChangeShapes Go.WideShapes Go.ChangeAt
set_option linter.unusedVariables false

/-- Of a range by turns that has q: its upper and its lower case. -/
theorem turns_conv {x : Row} (hok : x.ok) (hb : byT x = true) {q : Int} (hq : x.has q = true) : wrap32 (conv 0 q x) = q - (q - x.lo) % 2 ∧ wrap32 (conv 1 q x) = q - (q - x.lo) % 2 + 1 := by
  rw [Row.has_iff] at hq
  obtain ⟨o1, o2, o3⟩ := hok
  have h0 := byT_delta hb 0
  have h1 := byT_delta hb 1
  unfold conv
  rw [if_pos (by omega), if_pos (by omega)]
  simp only [wrap32]
  omega
theorem turns_odd {x : Row} (hg : goodB x = true) (hb : byT x = true) : (x.hi - x.lo) % 2 = 1 := by
  simp only [goodB, Bool.and_eq_true, if_pos hb, beq_iff_eq] at hg
  exact hg.2

set_option maxHeartbeats 2000000 in
set_option maxRecDepth 100000 in
theorem law (A : Option Addr) (len cap : Nat) (w : World) (hby : BytesArg w A len) (hV : CV w caseS) :
    Calls Tryd.prog 6 #[.slice A len cap] w fun e w' => e = .returned (.bool true) ∧ Below w.heap.size w w' := by
  by_cases hlen : len ≤ 1048576
  case neg =>
    go_enter Tryd.func6, Tryd.ntmps6
    go_wp2
    go_ret
    exact ⟨rfl, Below.refl _ _⟩
  have HD := Lib.hid (draw_any A len cap w (hby.bytes hlen))
  go_enter Tryd.func6, Tryd.ntmps6
  go_wp2_with fail
  refine HD.out.mono ?_
  rintro e w1 ⟨A1, c1, T, r, rfl, hL, hwf, hT, hr1, hr2, hcp, hb1⟩
  have HCp := Lib.hid hcp
  clear hcp
  have HL : Hid (LInv w w1 A1 T) := Lib.hid ⟨hL, hV.below hb1, hb1⟩
  have HWf := Lib.hid hwf
  clear hL hwf hb1 hV hby
  clear HD
  have HVd := Lib.hid (valid_any A1 c1 T w1 HL.out.lst HWf.out (by omega))
  cases hv : validB T with
  | false =>
    rw [hv] at HVd
    clear hv
    go_wp2_with fail
    refine HVd.out.mono ?_
    rintro e w2 ⟨rfl, hb2⟩
    have HB := Lib.hid (HL.out.below hb2).bel
    clear hb2
    go_wp2
    go_ret
    exact ⟨rfl, HB.out⟩
  | true =>
    rw [hv] at HVd
    have HS := Lib.hid (valid_srt HWf.out hv)
    have Hv := Lib.hid hv
    clear hv
    go_wp2_with fail
    refine HVd.out.mono ?_
    rintro e w2 ⟨rfl, hb2⟩
    have HL2 := Lib.hid (HL.out.below hb2)
    clear hb2 HL HVd
    have hO := of_any A1 c1 T r w2 HL2.out.lst HWf.out (by omega) hr1 hr2
    unfold ofI at hO
    cases hi : ofN T r with
    | none =>
      rw [hi] at hO
      simp only at hO
      have HO := Lib.hid hO
      clear hO hi
      go_wp2_with fail
      refine HO.out.mono ?_
      rintro e w3 ⟨rfl, rfl⟩
      have HZ := Lib.hid (oneLower ⟨65, 66, 1114112, 1114112, 1114112⟩ 65 66 w2 (by unfold Row.wf; decide) (by unfold Row.ok; decide) (by decide) (by simp [wrap32, conv, Row.delta]) HL2.out.cv)
      go_wp2_with fail
      refine HZ.out.mono ?_
      rintro e w9 ⟨rfl, hb9⟩
      have HB := Lib.hid (HL2.out.below hb9).bel
      clear hb9
      go_wp2
      go_ret
      exact ⟨rfl, HB.out⟩

    | some i =>
      rw [hi] at hO
      simp only at hO
      have HO := Lib.hid hO
      clear hO
      go_wp2_with fail
      refine HO.out.mono ?_
      rintro e w3 ⟨rfl, rfl⟩
      clear HO
      have HYUpper : Hid (∀ (wx : World) (q y : Int), LInv w wx A1 T → -2147483648 ≤ q → sp (std caseS 0) 0 T q = y → Calls Tryd.prog 7 #[.slice A1 T.length c1, .int .i32 q] wx fun e w' => e = .returned (.int .i32 y) ∧ Below wx.heap.size wx w') :=
        Lib.hid fun wx q y hx hq he => he ▸ SpecialUpper_any A1 c1 T caseS q wx hx.lst HWf.out HS.out hx.cv caseS_ok hq

      have HYLower : Hid (∀ (wx : World) (q y : Int), LInv w wx A1 T → -2147483648 ≤ q → sp (std caseS 1) 1 T q = y → Calls Tryd.prog 15 #[.slice A1 T.length c1, .int .i32 q] wx fun e w' => e = .returned (.int .i32 y) ∧ Below wx.heap.size wx w') :=
        Lib.hid fun wx q y hx hq he => he ▸ SpecialLower_any A1 c1 T caseS q wx hx.lst HWf.out HS.out hx.cv caseS_ok hq

      obtain ⟨hil, hh⟩ := ofN_get hi
      obtain ⟨b, o, x, hA1, hbb, hx, hm, k0, k1, k2, k3, k4⟩ := HL2.out.lst.at_ hil
      obtain rfl := hA1
      rw [hx] at hh
      have hg := valid_good Hv.out hm
      have hok := good_ok (HWf.out x hm) hg
      have hfi : T.find? (·.has r) = some x := by rw [find_of, hi]; simp only [Option.map_some]; rw [hx]

      have hiz : ¬ ((i : Int) < 0) := by omega
      have HB1 := byTurns_two x w2
      cases hbt : byT x with
      | false =>
        rw [hbt] at HB1
        have HB2 := Lib.hid HB1
        clear HB1 hbt hg hok hh hx hm hi hfi
        go_wp2_with fail
        refine HB2.out.mono ?_
        rintro e w4 ⟨rfl, hb4⟩
        have HL4 := Lib.hid (HL2.out.below hb4)
        clear hb4 HL2 HB2 k0 k1 k2 k3 k4
        have HZ := Lib.hid (oneLower ⟨65, 66, 1114112, 1114112, 1114112⟩ 65 66 w4 (by unfold Row.wf; decide) (by unfold Row.ok; decide) (by decide) (by simp [wrap32, conv, Row.delta]) HL4.out.cv)
        go_wp2_with fail
        refine HZ.out.mono ?_
        rintro e w9 ⟨rfl, hb9⟩
        have HB := Lib.hid (HL4.out.below hb9).bel
        clear hb9
        go_wp2
        go_ret
        exact ⟨rfl, HB.out⟩

      | true =>
        rw [hbt] at HB1
        have HB2 := Lib.hid HB1
        have hodd := turns_odd hg hbt
        have hh2 := Row.has_iff.1 hh
        have hall : ∀ q : Int, x.lo ≤ q → q ≤ x.hi → sp (std caseS 0) 0 T q = q - (q - x.lo) % 2 ∧ sp (std caseS 1) 1 T q = q - (q - x.lo) % 2 + 1 := fun q h1 h2 => by
          have hq : x.has q = true := Row.has_iff.2 ⟨h1, h2⟩
          have hfq : T.find? (·.has q) = some x := srt_find HS.out hm hq
          have := turns_conv hok hbt hq
          exact ⟨by rw [sp_some hfq, this.1], by rw [sp_some hfq, this.2]⟩
        obtain ⟨o1, o2, o3⟩ := hok
        obtain ⟨U, hU⟩ : ∃ U, r - (r - x.lo) % 2 = U := ⟨_, rfl⟩
        have a1 := hall r hh2.1 hh2.2
        have a2 := hall U (by omega) (by omega)
        have a3 := hall (U + 1) (by omega) (by omega)
        have E1 : Hid (sp (std caseS 0) 0 T r = U) := Lib.hid (by rw [a1.1]; omega)
        have E2 : Hid (sp (std caseS 1) 1 T r = U + 1) := Lib.hid (by rw [a1.2]; omega)
        have E3 : Hid (sp (std caseS 0) 0 T (U + 1) = U) := Lib.hid (by rw [a3.1]; omega)
        have E4 : Hid (sp (std caseS 1) 1 T U = U + 1) := Lib.hid (by rw [a2.2]; omega)
        have u1 : x.lo ≤ U := by omega
        have u2 : U ≤ 1114110 := by omega
        have hq0 : ((U - x.lo) % 2 == 0) = true := by rw [beq_iff_eq]; omega
        have hrU : r = U ∨ r = U + 1 := by omega
        have k0' : ∀ wx, LInv w wx (some ⟨b, o, none⟩) T → wx.cell? ⟨b, o + i * 5, none⟩ = some (.int .u32 x.lo) := fun wx hwx => by
          obtain ⟨b2, o2', x2, hA2, -, hx2, -, q0, -, -, -, -⟩ := hwx.lst.at_ hil
          simp only [Option.some.injEq, Addr.mk.injEq] at hA2
          obtain ⟨rfl, rfl, -⟩ := hA2
          rw [hx] at hx2
          rw [hx2]
          exact q0
        have K0 := Lib.hid k0'
        have hru : (r == U) = true ∨ ((r == U) = false ∧ (r == U + 1) = true) := by
          rcases hrU with h | h
          · exact .inl (by simp [h])
          · exact .inr ⟨by simp; omega, by simp [h]⟩
        clear HB1 hbt hg hh hh2 hx hm hi hfi hall hU a1 a2 a3 k0' hodd hrU o2 o3
        go_wp2_with fail
        refine HB2.out.mono ?_
        rintro e w4 ⟨rfl, hb4⟩
        have HL4 := Lib.hid (HL2.out.below hb4)
        clear hb4 HL2 HB2 k0 k1 k2 k3 k4
        go_wp2_with fail
        refine (HYUpper.out w4 r U HL4.out hr1 E1.out).mono ?_
        rintro e w5 ⟨rfl, hb5⟩
        have HL5 := Lib.hid (HL4.out.below hb5)
        clear hb5 HL4

        go_wp2_with fail
        refine (HYLower.out w5 r (U + 1) HL5.out hr1 E2.out).mono ?_
        rintro e w6 ⟨rfl, hb6⟩
        have HL6 := Lib.hid (HL5.out.below hb6)
        clear hb6 HL5

        rcases hru with hru | ⟨hru, hru2⟩
        all_goals
          go_wp2_with fail
          refine (HYUpper.out w6 (U + 1) U HL6.out (by omega) E3.out).mono ?_
          rintro e w7 ⟨rfl, hb7⟩
          have HL7 := Lib.hid (HL6.out.below hb7)
          clear hb7 HL6

          go_wp2_with fail
          refine (HYLower.out w7 U (U + 1) HL7.out (by omega) E4.out).mono ?_
          rintro e w8 ⟨rfl, hb8⟩
          have HL8 := Lib.hid (HL7.out.below hb8)
          clear hb8 HL7

          have k5 := K0.out w8 HL8.out
          have HB := Lib.hid HL8.out.bel
          go_wp2
          go_ret
          exact ⟨rfl, HB.out⟩

/-! ### the row, and the card -/
set_option maxRecDepth 100000 in
theorem lifted (os : Os) (started : os.Started) (H : Type) (enc : TypeId × Value → H) :
    ReturnsInHanded {} Tryd.checked os 6 .any (fun w args => (Rows.fnTurnsSpec.pre enc Tryd.prog Tryd.f6 [] false w args ∧ laidMetH Tryd.prog Rows.fnTurnsRow.laid w) ∧ sizedMet enc Tryd.prog Tryd.f6 (OpenSpec.ofChange Rows.fnTurnsSpec) false w args)
      (Rows.fnTurnsSpec.post enc Tryd.prog Tryd.f6 false true false false) := by
  refine returnsInHanded_of_change_and (C := Tryd.checked) (X := fun w _ => laidMetH Tryd.prog Rows.fnTurnsRow.laid w) (fun _ _ _ hh h => h.of_heap hh) own started (by kernel_rfl) Tryd.func6
    (ChangeSpec.witness_shaped (enc := enc) (C := Tryd.checked) (os := os) (X := fun w _ => laidMetH Tryd.prog Rows.fnTurnsRow.laid w) false (World.laidAll Tryd.prog os lay) #[.slice none 0 0] 8 (World.laidAll_os _ _ _)
      (wit_shaped os) (by kernel_rfl) (by kernel_rfl) (by kernel_rfl) (wit_laid os)) ?_
  intro W base args ds gs before hval0 hW _ _ hL _
  have hval : ∀ (j : Nat) t v, Tryd.f6.params[j]? = some t → args[j]? = some v → Value.okWide Tryd.prog W .any base t v := hval0
  have hW' := hW
  obtain ⟨p, q, hA0, hV, rfl, _, _⟩ := hW
  have hA : DataW.TrodAll enc Tryd.prog W 0 (fun _ => true) true Tryd.f6.params.toList args.toList ds p := hA0
  rw [Tryd.params6] at hA hval
  obtain ⟨v0, d0, rfl, rfl, h0⟩ := trodAll_one hA
  obtain ⟨rfl, rfl⟩ := trodVars_none hV
  obtain ⟨a0, len0, cap0, rfl⟩ := okWide_slice Tryd.underlying22 (hval 0 22 v0 rfl rfl)
  have lt0 : ∀ x ∈ p, x.block < W.heap.size := by obtain ⟨m, hm⟩ := h0; exact DataW.trod_lt m _ _ _ hm
  have hL' : laidMetH Tryd.prog lay W := hL
  rw [MakeChecks.laidMetH_plain _ _ _ lay_plain] at hL'
  have hT : CV W caseS := cv_of_reads (Lib.laidMet.reads hL' (.head _))
  refine (law a0 len0 cap0 W (bytes_of h0) hT).mono fun e W' ⟨he, bel⟩ => ?_
  subst he
  exact ⟨_, rfl, _, _, _, [], _, [], hW', trodAll_mk1 (shut_bool Tryd.underlying4 _), trodAll_mk1 (Below.trod laidOut (by kernel_rfl) (of_decide_eq_true (by kernel_rfl)) h0 bel lt0), rfl, bel.frame _, fun h => by cases h⟩

theorem said : Rows.FnTurnsSaid :=
  OpenClaim.holds_of_wide 6 Tryd.f6 rfl rfl rfl rfl rfl rfl rfl ⟨rfl, rfl, rfl, rfl, rfl⟩ rfl rfl rfl rfl rfl (by kernel_rfl) Tryd.func6 (by kernel_rfl)
    (of_decide_eq_true (by kernel_rfl)) (by unfold Func.isWrapper; first | (rw [if_pos (by decide +kernel)]; kernel_rfl) | (rw [if_neg (by decide +kernel)]; exact ⟨rfl, rfl⟩))
    (fun os started H enc _ => lifted os started H enc)
theorem plain (f : FuncId) (fn : Func) (hf : Tryd.pinned.checked.prog.funcNamed Rows.fnTurnsRow.func = some f) (hfn : Tryd.pinned.checked.prog.funcs[f]? = some fn) :
    false = Tryd.pinned.checked.prog.looks [] ∧ ∀ (j : Nat) t, fn.params[j]? = some t → Tryd.pinned.checked.prog.wantsStandIn t = false := by
  obtain rfl : f = 6 := Option.some.inj ((show Tryd.prog.funcNamed Rows.fnTurnsRow.func = some 6 by kernel_rfl).symm.trans hf) |>.symm
  obtain rfl : fn = Tryd.f6 := (Option.some.inj (Tryd.func6.symm.trans hfn)).symm
  refine ⟨by kernel_rfl, fun j t ht => ?_⟩
  rw [Tryd.params6] at ht
  obtain rfl : t = 22 := by simpa using Array.mem_of_getElem? ht
  exact (show Tryd.prog.wantsStandIn 22 = false by kernel_rfl)
/-- The card. -/
theorem holds : Rows.FnTurnsCardSaid :=
  Claim7.holds_tied_plain_at .later [] _ _ _ _ said (fun _ h => by cases h) (by kernel_rfl) (fun _ h => by cases h) fnTurns_row_tie rfl ⟨rfl, rfl⟩ (by kernel_rfl) rfl plain (by kernel_rfl)
#print axioms holds
end Go.Proofs.YtklmigpcomnchaaDoor.lFnTurns
