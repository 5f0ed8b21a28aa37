/-
  spec.DrawSpecial returns some list of at most 30 ranges and some number, whatever the input's bytes; spec.DrawNumber some number. Nothing that was there changes.
-/
import Derived.Test.YtfcalmjojmfooaaDoorRang
namespace Go.Proofs.YtfcalmjojmfooaaDoor
open Go.RowKit

/-- What DrawSpecial leaves: a list of ranges and a number; nothing that was there has changed. -/
def DrawPost (w : World) (e : Ending) (w' : World) : Prop :=
  ∃ (A : Option Addr) (cp : Nat) (T : List Row) (r : Int), e = .returned (.tuple #[.slice A T.length cp, .int .i32 r]) ∧ Lst w' A T ∧ Wf T ∧ T.length ≤ 30 ∧ -2147483648 ≤ r ∧ r ≤ 2147483647 ∧ (T.length ≤ cp ∧ cp ≤ 9223372036854775807 ∧ A ≠ none) ∧ Below w.heap.size w w'

theorem Own.at_ {w : World} {B e n b cp : Nat} {T : List Row} (h : Own w B e (.slice (some ⟨b, 0, none⟩) n cp) T) : b < w.heap.size ∧ Cells w b 0 T := by
  obtain ⟨b', cp', hv, _, hlt, hc⟩ := h.form
  simp only [Value.slice.injEq, Option.some.injEq, Addr.mk.injEq] at hv
  obtain ⟨⟨rfl, _⟩, _⟩ := hv
  exact ⟨hlt, hc⟩
theorem Own.cap {w : World} {B e n cp : Nat} {A : Option Addr} {T : List Row} (h : Own w B e (.slice A n cp) T) : n ≤ cp ∧ cp ≤ 9223372036854775807 := by
  rcases h.1.2 with ⟨hv, _⟩ | ⟨g, cap, cur, hv, _, _, h1, h2, _⟩
  · exact absurd hv h.2
  · simp only [Value.slice.injEq] at hv
    obtain ⟨_, rfl, rfl⟩ := hv
    unfold maxLen at h2
    exact ⟨h1, h2⟩
theorem SInv.back {w wr : World} {o : Obj} {A : Option Addr} {len cap p : Nat} {v : Value} {T : List Row} (h : SInv (w.alloc o) wr w.heap.size A len cap p v T) : Below w.heap.size w wr := by
  have hg := h.gr
  refine ⟨hg.os, hg.tape, hg.output, by have := hg.size; simp at this; omega, fun k hk => ?_⟩
  rw [hg.block k (by simp; omega) (by simp; omega)]
  exact Below.heap_alloc w o k hk
theorem Bytes.start {w : World} {A : Option Addr} {len : Nat} (h : Bytes w w.heap.size A len) (cap : Nat) : Rd (w.alloc (.cells #[.slice A len cap, .int .i64 0] 47)) w.heap.size A len cap 0 :=
  ⟨heap_alloc_new w _, h.keep fun k hk => Below.heap_alloc w _ k hk⟩
theorem drawPost_mk {w wr : World} {o : Obj} {A : Option Addr} {len cap p b cp : Nat} {T : List Row} {r : Int} {e : Ending} (h : SInv (w.alloc o) wr w.heap.size A len cap p (.slice (some ⟨b, 0, none⟩) T.length cp) T) (hwf : Wf T) (hT : T.length ≤ 30)
    (h1 : -2147483648 ≤ r) (h2 : r ≤ 2147483647) (he : e = .returned (.tuple #[.slice (some ⟨b, 0, none⟩) T.length cp, .int .i32 r])) : DrawPost w e wr :=
  ⟨_, cp, T, r, he, (fun _ => ⟨b, 0, rfl, h.own.at_.1, h.own.at_.2⟩), hwf, hT, h1, h2, ⟨h.own.cap.1, h.own.cap.2, by simp⟩, h.back⟩

set_option maxHeartbeats 2000000 in
set_option maxRecDepth 100000 in
theorem draw_any (A : Option Addr) (len cap : Nat) (w : World) (h : Bytes w w.heap.size A len) :
    Calls Tryd.prog 16 #[.slice A len cap] w (DrawPost w) := by
  have H0 := Lib.hid (ranges_any w.heap.size A len cap _ (h.start cap))
  clear h
  go_enter Tryd.func16, Tryd.ntmps16
  go_wp2_with fail
  refine H0.out.mono ?_
  rintro e w1 ⟨v, T, p, rfl, hS, hT, hwf, hp⟩
  obtain ⟨b, cv, rfl, -, -, -⟩ := hS.own.form
  have HS := Lib.hid hS
  have HW := Lib.hid hwf
  clear hS hwf H0
  go_wp2_with fail
  refine (one_any w.heap.size A len cap p w1.heap.size 10 10 (-1) 2147483647 _ (HS.out.alloc _).rd (by omega) (by omega) (by omega) (by have := HS.out.size; simp at this; omega) ?_).mono ?_
  · exact lits_cells _ [97, 65, 105, 122, 305, 255, 1114111, 1114112, -1, 2147483647] _ _ (by simp) (-1) 2147483647 (by decide)
  rintro e w2 ⟨z, hz1, hz2, rfl, hrd, hgr⟩
  have HS2 := Lib.hid ((HS.out.alloc _).step hrd hgr)
  clear hrd hgr HS
  by_cases hT0 : 0 < T.length
  · have hTz : (0 : Int) < (T.length : Int) := by omega
    go_wp2_with fail
    refine (pick_any w.heap.size A len cap (p + 1) 5 _ HS2.out.rd (by omega) (by omega)).mono ?_
    rintro e w3 ⟨k, hk1, hk2, rfl, hrd, hgr⟩
    have HS3 := Lib.hid (HS2.out.step hrd hgr)
    clear hrd hgr HS2 hk2
    by_cases hk : 0 < k
    · go_wp2_with fail
      refine (pick_any w.heap.size A len cap (p + 1 + 1) (T.length : Int) _ HS3.out.rd (by omega) (by omega)).mono ?_
      rintro e w4 ⟨j0, hj1, hj2, rfl, hrd, hgr⟩
      have HS4 := Lib.hid (HS3.out.step hrd hgr)
      obtain ⟨j, rfl⟩ := Int.eq_ofNat_of_zero_le hj1
      have hj : j < T.length := by have := hj2 (by omega); omega
      obtain ⟨c0, c1, c2, c3, c4⟩ := HS4.out.own.at_.2 j hj
      obtain ⟨x, hx⟩ : ∃ x, T.getD j z5 = x := ⟨_, rfl⟩
      have hwx : x.wf := hx ▸ HW.out _ (getD_mem hj)
      rw [hx] at c0 c1 c2 c3 c4
      simp only [Nat.zero_add] at c0 c1 c2 c3 c4
      have HR := Lib.hid (RInv.start HS4.out x)
      obtain ⟨x1, x2, x3, x4, -⟩ := hwx
      clear hrd hgr HS3 hj2 hx
      go_wp2
      generalize w4.alloc (.cells #[.int .u32 x.lo, .int .u32 x.hi, .int .i32 x.d0, .int .i32 x.d1, .int .i32 x.d2] 27) = wa at HR ⊢
      generalize w4.heap.size = xb at HR ⊢
      clear c0 c1 c2 c3 c4 HS4
      have c0 := HR.out.cells.1
      have c1 := HR.out.cells.2.1
      obtain ⟨D, hD⟩ : ∃ D, IntKind.u32.wrap (x.hi - x.lo) = D := ⟨_, rfl⟩
      have hDb : 0 ≤ D ∧ D ≤ 4294967295 := by rw [← hD, IntKind.wrap_u32]; omega
      obtain ⟨hD1, hD2⟩ := hDb
      have e1 : IntKind.i64.wrap D = D := IntWalk.i64_in _ (by omega)
      have e2 : IntKind.i64.wrap (D + 1) = D + 1 := IntWalk.i64_in _ (by omega)
      have e3 : IntKind.i64.wrap x.lo = x.lo := IntWalk.i64_in _ (by omega)
      go_region_held3 (fun w' => w'.cell? ⟨xb, 0, none⟩ = some (.int .u32 x.lo) ∧ w'.cell? ⟨xb, 1, none⟩ = some (.int .u32 x.hi)) (first | exact ⟨c0, c1⟩ | exact ⟨hk4, hk5⟩ | fail) (first | (go_at_call 35; refine (pick_any w.heap.size A len cap (p + 1 + 1 + 1) (D + 1) _ HR.out.drew.s.rd (by omega) (by omega)).mono ?_; rintro e w5 ⟨k6, hk6, hk7, rfl, hrd, hgr⟩; have HR2 := Lib.hid (HR.out.drew.step hrd hgr); have hk4 := HR2.out.cells.1; have hk5 := HR2.out.cells.2.1; have hk8 := hk7 (by omega); clear hrd hgr hk7; have e4 : IntKind.i64.wrap (x.lo + k6) = x.lo + k6 := IntWalk.i64_in _ (by omega)))
      clear e1 e2 e3 e4 hD c0 c1 HR
      go_wp2_with fail
      refine (pick_any w.heap.size A len cap (p + 1 + 1 + 1 + 1) 4 _ HR2.out.s.rd (by omega) (by omega)).mono ?_
      rintro e w6 ⟨k7, hk9, hk10, rfl, hrd, hgr⟩
      have HR3 := Lib.hid (HR2.out.step hrd hgr)
      have c0 := HR3.out.cells.1
      have c1 := HR3.out.cells.2.1
      clear hrd hgr HR2 hk10 hk4 hk5
      by_cases hk7 : (k7 == 0) = true
      · go_wp2_with fail
        refine (one_any w.heap.size A len cap (p + 1 + 1 + 1 + 1 + 1) w6.heap.size 4 4 (-1) 4294967296 _ (HR3.out.alloc _).s.rd (by omega) (by omega) (by omega) (by have := HR3.out.s.size; simp at this; omega) ?_).mono ?_
        · exact lits_cells _ [x.lo - 1, x.hi + 1, x.hi, x.lo] _ _ (by simp) (-1) 4294967296 (by simp; omega)
        rintro e w7 ⟨z8, hz8, hz9, rfl, hrd, hgr⟩
        have HR4 := Lib.hid ((HR3.out.alloc _).step hrd hgr)
        clear hrd hgr HR3 c0 c1
        go_wp2
        go_ret2
        exact drawPost_mk HR4.out.s HW.out hT (wrap32_bd _).1 (wrap32_bd _).2 rfl
      · have hkf : (k7 == 0) = false := by simpa using hk7
        clear hk7
        go_wp2
        go_ret2
        exact drawPost_mk HR3.out.s HW.out hT (wrap32_bd _).1 (wrap32_bd _).2 rfl
    · go_wp2
      go_ret2
      exact drawPost_mk HS3.out HW.out hT (by omega) (by omega) rfl
  · have hTz : ¬ (0 : Int) < (T.length : Int) := by omega
    go_wp2
    go_ret2
    exact drawPost_mk HS2.out HW.out hT (by omega) (by omega) rfl
end Go.Proofs.YtfcalmjojmfooaaDoor
