/-
  spec.ranges: it returns a slice of at most 30 ranges, whatever the input's bytes.
-/
import Derived.Test.YtfcalmjojmfooaaDoorInv
import Derived.Deep.RegionHeld3
import Derived.Deep.DeepCutAuto
namespace Go.Proofs.YtfcalmjojmfooaaDoor
open Go.RowKit

/-- What ranges leaves. -/
def RangesPost (w : World) (g : Nat) (A : Option Addr) (len cap : Nat) (e : Ending) (w' : World) : Prop :=
  ∃ v T p, e = .returned v ∧ SInv w w' g A len cap p v T ∧ T.length ≤ 30 ∧ Wf T ∧ p ≤ 1000
/-- One round's struct, as far as it has been made: its bounds. -/
def XBd (N : Int) (x : Row) : Prop := x.wf ∧ x.lo ≤ N + 30 ∧ x.hi ≤ N + 58

set_option maxHeartbeats 2000000 in
set_option maxRecDepth 100000 in
theorem ranges_any (g : Nat) (A : Option Addr) (len cap : Nat) (w : World) (h : Rd w g A len cap 0) :
    Calls Tryd.prog 33 #[.pointer (some ⟨g, 0, none⟩)] w (RangesPost w g A len cap) := by
  have hg := h.lt
  obtain ⟨i0, iI, iz0, iz1, iz2⟩ := info_parts info34
  have H0 : Hid (SInv w (w.alloc (.cells #[] 27)) g A len cap 0 (.slice (some ⟨w.heap.size, 0, none⟩) 0 0) []) :=
    Lib.hid ⟨h.alloc _, Own.made w _ _ (Nat.le_refl _), World.grownBy_alloc w _ _, hg⟩
  clear h
  go_enter Tryd.func33, Tryd.ntmps33
  go_wp2_with fail
  refine (one_any g A len cap 0 (w.heap.size + 1) 8 8 0 1114096 _ (H0.out.alloc _).rd (by omega) (by omega) (by omega) (by omega) ?_).mono ?_
  · exact lits_cells _ [65, 97, 0, 200, 304, 452, 65536, 1114096] _ _ (by simp) 0 1114096 (by decide)
  rintro e w1 ⟨N, hN1, hN2, rfl, hrd, hgr⟩
  have H1 := Lib.hid ((H0.out.alloc _).step hrd hgr)
  clear hrd hgr H0
  go_wp2_with fail
  refine (one_any g A len cap 1 w1.heap.size 7 7 0 30 _ (H1.out.alloc _).rd (by omega) (by omega) (by omega) (by have := H1.out.size; omega) ?_).mono ?_
  · exact lits_cells _ [2, 3, 1, 5, 0, 12, 30] _ _ (by simp) 0 30 (by decide)
  rintro e w2 ⟨n, hn1, hn2, rfl, hrd, hgr⟩
  have H2 := Lib.hid ((H1.out.alloc _).step hrd hgr)
  clear hrd hgr H1
  obtain ⟨n0, rfl⟩ := Int.eq_ofNat_of_zero_le hn1
  go_wp2
  go_loopg [3, 4, 5] 31 (fun gk s3 s4 s5 wr => ∃ (n : Nat) (N : Int) (T : List Row) (p : Nat), s4 = .int .i64 N ∧ s5 = .int .i64 n ∧ n < gk ∧ 0 ≤ N ∧ N + 60 * n ≤ 1115896 ∧ T.length + n ≤ 30 ∧ p + 12 * n ≤ 400 ∧ Wf T ∧ SInv w wr g A len cap p s3 T)
  case atStart => exact ⟨n0, N, [], 2, rfl, rfl, by omega, hN1, by omega, by simp; omega, by omega, (fun x hx => by cases hx), H2.out⟩
  case round =>
    obtain ⟨n, N, T, p, rfl, rfl, hgk, hN, hNn, hT, hp, hwf, hI⟩ := hrel
    have HI := Lib.hid hI
    have HW := Lib.hid hwf
    clear hI hwf H2
    obtain ⟨g', rfl⟩ : ∃ g', gk = g' + 1 := ⟨gk - 1, by omega⟩
    by_cases hn0 : 0 < n
    · go_wp2_with fail
      refine (one_any g A len cap p wr.heap.size 5 5 0 30 _ (HI.out.alloc _).rd (by omega) (by omega) (by omega) (by have := HI.out.size; omega) ?_).mono ?_
      · exact lits_cells _ [0, 1, 2, 5, 30] _ _ (by simp) 0 30 (by decide)
      rintro e w3 ⟨z1, hz1, hz2, rfl, hrd, hgr⟩
      have H3 := (HI.out.alloc _).step hrd hgr
      have HR : RInv w (w3.alloc (.cells #[.int .u32 (N + z1), .int .u32 0, .int .i32 0, .int .i32 0, .int .i32 0] 27)) g A len cap (p + 1) u3 T w3.heap.size ⟨N + z1, 0, 0, 0, 0⟩ := RInv.start H3 ⟨N + z1, 0, 0, 0, 0⟩
      have HRa := Lib.hid HR
      clear H3 HR hrd hgr
      go_wp2
      generalize w3.alloc (.cells #[.int .u32 (N + z1), .int .u32 0, .int .i32 0, .int .i32 0, .int .i32 0] 27) = wa at HRa ⊢
      generalize w3.heap.size = xb at HRa ⊢
      have c0 := HRa.out.cells.1
      have c1 := HRa.out.cells.2.1
      have cf := HRa.out.free 1
      simp only at c0 c1
      have hxb := HRa.out.lt
      go_region_held3 (fun w' => w'.cell? ⟨xb, 0, none⟩ = some (.int .u32 (N + z1))) (first | exact c0 | exact (HRa.out.alloc _).drew.cells.1 | exact hk4 | exact (HRb.out.setHi _).cells.1 | fail) (first | (go_at_call 34; refine (one_any g A len cap (p + 1) wa.heap.size 7 7 0 25 _ (HRa.out.alloc _).drew.s.rd (by omega) (by omega) (by omega) (by have := HRa.out.s.size; omega) (lits_cells _ [0, 1, 2, 3, 5, 7, 25] _ _ (by simp) 0 25 (by decide))).mono ?_; rintro e w4 ⟨z2, hz3, hz4, rfl, hrd, hgr⟩; have HRb := Lib.hid ((HRa.out.alloc _).drew.step hrd hgr); have hk4 := HRb.out.cells.1; have hk5 := HRb.out.cells.2.1; have hk6 := HRb.out.free 1; simp only at hk4 hk5; clear hrd hgr; have e1 : IntKind.u32.wrap z2 = z2 := IntWalk.u32_in _ (by omega); have e2 : IntKind.u32.wrap (N + z1 + z2) = N + z1 + z2 := IntWalk.u32_in _ (by omega)))
      have HRc := Lib.hid (HRb.out.setHi (N + z1 + z2))
      have HX : Hid (XBd N ⟨N + z1, N + z1 + z2, 0, 0, 0⟩) := Lib.hid ⟨⟨by simp only; omega, by simp only; omega, by simp only; omega, by simp only; omega, by simp, by simp, by simp, by simp, by simp, by simp⟩, by simp only; omega, by simp only; omega⟩
      simp only at HRc
      generalize w4.setCell ⟨xb, 1, none⟩ (.int .u32 (N + z1 + z2)) = wb at HRc ⊢
      generalize (⟨N + z1, N + z1 + z2, 0, 0, 0⟩ : Row) = x at HRc HX
      clear HRa HRb hk4 hk5 hk6 e1 e2 c0 c1 cf hxb
      go_wp2_with fail
      refine (pick_any g A len cap (p + 1 + 1) 3 _ HRc.out.s.rd (by omega) (by omega)).mono ?_
      rintro e w5 ⟨k3, hk1, hk2, rfl, hrd, hgr⟩
      have HRd := Lib.hid (HRc.out.step hrd hgr)
      clear hrd hgr HRc hk2
      go_upto_if 36 with fail
      generalize (k3 == 0) = bk
      go_cut [6] (fun s6 wc => s6 = .pointer (some ⟨xb, 0, none⟩) ∧ ∃ (x : Row) (p' : Nat), RInv w wc g A len cap p' u3 T xb x ∧ XBd N x ∧ p' ≤ p + 6)
      case first =>
        have c0 := HRd.out.cells.1
        have c1 := HRd.out.cells.2.1
        have cf := HRd.out.free 1
        have hxl := HX.out.1.1
        have hxl2 := HX.out.2.1
        cases bk with
        | true =>
          go_wp2
          go_region_held3 (fun w' => w'.cell? ⟨xb, 0, none⟩ = some (.int .u32 x.lo)) (first | exact c0 | exact (HRd.out.alloc _).drew.cells.1 | exact hk4 | exact (HRe.out.setHi _).cells.1 | fail) (first | (go_at_call 34; refine (one_any g A len cap (p + 1 + 1 + 1) w5.heap.size 4 4 1 9 _ (HRd.out.alloc _).drew.s.rd (by omega) (by omega) (by omega) (by have := HRd.out.s.size; omega) (lits_cells _ [1, 3, 5, 9] _ _ (by simp) 1 9 (by decide))).mono ?_; rintro e w6 ⟨z3, hz3, hz4, rfl, hrd, hgr⟩; have HRe := Lib.hid ((HRd.out.alloc _).drew.step hrd hgr); have hk4 := HRe.out.cells.1; have hk5 := HRe.out.cells.2.1; have hk6 := HRe.out.free 1; clear hrd hgr; have e1 : IntKind.u32.wrap z3 = z3 := IntWalk.u32_in _ (by omega); have e2 : IntKind.u32.wrap (x.lo + z3) = x.lo + z3 := IntWalk.u32_in _ (by omega)))
          have HRf := Lib.hid (HRe.out.setHi (x.lo + z3))
          generalize w6.setCell ⟨xb, 1, none⟩ (.int .u32 (x.lo + z3)) = wf at HRf ⊢
          clear hk4 hk5 hk6 e1 e2 c0 c1 cf HRe HRd
          have c2 := HRf.out.cells.2.2.1
          have c3 := HRf.out.cells.2.2.2.1
          have c4 := HRf.out.cells.2.2.2.2
          have f2 := HRf.out.free 2
          have f3 := HRf.out.free 3
          have f4 := HRf.out.free 4
          simp only at c2 c3 c4
          go_wp2
          go_meet
          refine ⟨rfl, _, _, ((HRf.out.setD (j := 0) (by omega) 1114112).setD (j := 1) (by omega) 1114112).setD (j := 2) (by omega) 1114112, ?_, by omega⟩
          obtain ⟨⟨a1, a2, a3, a4, a5⟩, b1, b2⟩ := HX.out
          exact ⟨⟨a1, a2, by simp [Row.setD]; omega, by simp [Row.setD]; omega, by simp [Row.setD], by simp [Row.setD], by simp [Row.setD], by simp [Row.setD], by simp [Row.setD], by simp [Row.setD]⟩, b1, by simp [Row.setD]; omega⟩
        | false =>
          clear c0 c1 cf
          go_wp2
          go_loopg [7] 4 (fun gk s7 wl => ∃ (k : Nat) (x : Row) (p' : Nat), s7 = .int .i64 k ∧ k ≤ 3 ∧ 3 - k < gk ∧ RInv w wl g A len cap p' u3 T xb x ∧ XBd N x ∧ p' ≤ p + 3 + k)
          case atStart => exact ⟨0, x, _, rfl, by omega, by omega, HRd.out, HX.out, by omega⟩
          case round =>
            obtain ⟨k, y, q, rfl, hk3, hgk2, hR, hY, hq⟩ := hrel
            have HR := Lib.hid hR
            have HY := Lib.hid hY
            clear hR hY HRd HX
            by_cases hklt : k < 3
            · obtain ⟨gi, rfl⟩ : ∃ gi, gk = gi + 1 := ⟨gk - 1, by omega⟩
              have hkz : (k : Int) < 3 := by omega
              go_wp2_with fail
              refine (one_any g A len cap q wr.heap.size 8 8 (-65) 4096 _ (HR.out.alloc _).s.rd (by omega) (by omega) (by omega) (by have := HR.out.s.size; omega) ?_).mono ?_
              · exact lits_cells _ [0, 32, -32, 1, -1, 100, 4096, -65] _ _ (by simp) (-65) 4096 (by decide)
              rintro e w7 ⟨z5, hz5, hz6, rfl, hrd, hgr⟩
              have HS := Lib.hid ((HR.out.alloc _).step hrd hgr)
              have cD := HS.out.cellD hklt
              have fD := HS.out.free (2 + k)
              clear hrd hgr HR
              go_wp2
              go_roundg gi
              case measure => omega
              case rel => exact ⟨k + 1, _, _, by go_num, by omega, by omega, HS.out.setD hklt z5, ⟨setD_wf HY.out.1 k (by omega) (by omega), by rw [(setD_lo y k z5).1]; exact HY.out.2.1, by rw [(setD_lo y k z5).2]; exact HY.out.2.2⟩, by omega⟩
            · have hkz : ¬ (k : Int) < 3 := by omega
              go_wp2
              go_meet
              exact ⟨rfl, y, q, HR.out, HY.out, by omega⟩
      case rest =>
        obtain ⟨rfl, x, p', hR, hX, hp'⟩ := hcut
        have HR := Lib.hid hR
        have HX := Lib.hid hX
        clear hR hX
        go_wp2_with fail
        refine (pick_any g A len cap p' 40 _ HR.out.s.rd (by omega) (by omega)).mono ?_
        rintro e w8 ⟨k4, hk1, hk2, rfl, hrd, hgr⟩
        have HR1 := Lib.hid (HR.out.step hrd hgr)
        clear hrd hgr HR hk2
        go_upto_if 60 with fail
        generalize (k4 == 0) = bk
        go_cut [6] (fun s6 wc => s6 = .pointer (some ⟨xb, 0, none⟩) ∧ ∃ (x : Row) (p' : Nat), RInv w wc g A len cap p' u3 T xb x ∧ XBd N x ∧ p' ≤ p + 9)
        case first =>
          cases bk with
          | true =>
            go_wp2_with fail
            refine (pick_any g A len cap (p' + 1) 3 _ HR1.out.s.rd (by omega) (by omega)).mono ?_
            rintro e w9 ⟨j0, hj1, hj2, rfl, hrd, hgr⟩
            have HR2 := Lib.hid (HR1.out.step hrd hgr)
            obtain ⟨j, rfl⟩ := Int.eq_ofNat_of_zero_le hj1
            have hj3 : j < 3 := by have := hj2 (by omega); omega
            have hj4 : (j : Int) < 3 := by omega
            clear hrd hgr HR1 hj2
            go_wp2_with fail
            refine (one_any g A len cap (p' + 1 + 1) w9.heap.size 4 4 (-1114111) 1114113 _ (HR2.out.alloc _).s.rd (by omega) (by omega) (by omega) (by have := HR2.out.s.size; omega) ?_).mono ?_
            · exact lits_cells _ [1114112, 1114111, -1114111, 1114113] _ _ (by simp) (-1114111) 1114113 (by decide)
            rintro e w10 ⟨z7, hz7, hz8, rfl, hrd, hgr⟩
            have HR3 := Lib.hid ((HR2.out.alloc _).step hrd hgr)
            have cD := HR3.out.cellD hj3
            have fD := HR3.out.free (2 + j)
            clear hrd hgr HR2
            go_wp2
            go_meet
            exact ⟨rfl, _, _, HR3.out.setD hj3 z7, ⟨setD_wf HX.out.1 j (by omega) (by omega), by rw [(setD_lo x j z7).1]; exact HX.out.2.1, by rw [(setD_lo x j z7).2]; exact HX.out.2.2⟩, by omega⟩
          | false =>
            go_wp2
            go_meet
            exact ⟨rfl, x, _, HR1.out, HX.out, by omega⟩
        case rest =>
          obtain ⟨rfl, y, q, hR, hY, hq⟩ := hcut
          obtain ⟨c0, c1, c2, c3, c4⟩ := hR.cells
          have HR := Lib.hid hR
          have HY := Lib.hid hY
          have hTl : T.length < 30 := by omega
          clear hR hY HX
          go_wp2_with (at_builtin; refine wpList_append_own _ rfl (.tmp 69) (.tmp 71) 28 rfl w.heap.size 27 i0 _ 5 20 Tryd.underlying28 iI iz0 iz1 iz2 rfl (by decide) _ _ _ rfl (HR.out.s.own.1.alloc _) ⟨wc.heap.size, 0, none⟩ 1 1 y.cells rfl rfl ?c1 (cells_one y) ?c3 ?c4 ?c5 ?_)
          case c1 => exact news_of (cell_new5 _ y _ _ (by simp))
          case c3 => unfold maxLen; omega
          case c4 => omega
          case c5 => have := HR.out.s.size; simp; omega
          · intro v' w11 hown' hgrow hnil
            obtain ⟨S1, S2⟩ := (HR.out.alloc _).grow hnil rfl hown' hgrow
            have HS1 := Lib.hid S1
            have HS2 := Lib.hid S2
            have d0 : w11.cell? ⟨xb, 0, none⟩ = some (.int .u32 y.lo) := cell_of_row w11 xb 0 _ _ _ S2
            have d1 : w11.cell? ⟨xb, 1, none⟩ = some (.int .u32 y.hi) := cell_of_row w11 xb 1 _ _ _ S2
            obtain ⟨⟨y1, y2, y3, y4, -⟩, y5, y6⟩ := HY.out
            have HWf : Hid (Wf (T ++ [y])) := Lib.hid fun z hz => by
              rcases List.mem_append.1 hz with h | h
              · exact HW.out z h
              · obtain rfl : z = y := by simpa using h
                exact HY.out.1
            have hxg : xb ≠ g := HR.out.ne_g
            clear S1 S2 hown' hgrow hnil HR HY HW c0 c1 c2 c3 c4
            go_wp2_with fail
            refine (pick_any g A len cap q 40 _ HS1.out.rd (by omega) (by omega)).mono ?_
            rintro e w12 ⟨k5, hk1, hk2, rfl, hrd, hgr⟩
            have HS3 := Lib.hid (HS1.out.step hrd hgr)
            have d0' : w12.cell? ⟨xb, 0, none⟩ = some (.int .u32 y.lo) := hgr.cell d0 (by simpa using hxg)
            clear hrd hgr hk2 d0 d1 HS1 HS2
            by_cases hk : (k5 == 0) = true
            · go_wp2
              go_roundg g'
              case measure => omega
              case rel => exact ⟨n - 1, y.lo, T ++ [y], _, rfl, by go_num, by omega, y1, by omega, by simp; omega, by omega, HWf.out, HS3.out⟩
            · have hkf : (k5 == 0) = false := by simpa using hk
              clear hk
              go_wp2
              go_roundg g'
              case measure => omega
              case rel => exact ⟨n - 1, y.hi + 1, T ++ [y], _, rfl, by go_num, by omega, by omega, by omega, by simp; omega, by omega, HWf.out, HS3.out⟩
    · have hz : ¬ (0 < (n : Int)) := by omega
      go_wp2
      go_ret
      exact ⟨_, T, p, rfl, HI.out, by omega, HW.out, by omega⟩
end Go.Proofs.YtfcalmjojmfooaaDoor
