/-
  spec.DrawNumber returns some number of 32 bits, whatever the input's bytes.
-/
import Derived.Test.YtfcalmjojmfooaaDoorPick
namespace Go.Proofs.YtfcalmjojmfooaaDoor
open Go.RowKit

/-- What DrawNumber leaves. -/
def NumPost (w : World) (e : Ending) (w' : World) : Prop := ∃ r : Int, e = .returned (.int .i32 r) ∧ -2147483648 ≤ r ∧ r ≤ 2147483647 ∧ Below w.heap.size w w'
def NInv (w wr : World) (A : Option Addr) (len cap p : Nat) : Prop := Rd wr w.heap.size A len cap p ∧ Below w.heap.size w wr
theorem NInv.step {w wr w1 : World} {A : Option Addr} {len cap p p' : Nat} (h : NInv w wr A len cap p) (hrd : Rd w1 w.heap.size A len cap p') (hg : wr.grownBy w1 (some w.heap.size)) : NInv w w1 A len cap p' :=
  ⟨hrd, h.2.grown hg h.2.size (fun k hk => by simp at hk; omega)⟩
theorem NInv.start {w : World} {A : Option Addr} {len : Nat} (h : Bytes w w.heap.size A len) (cap : Nat) : NInv w (w.alloc (.cells #[.slice A len cap, .int .i64 0] 47)) A len cap 0 :=
  ⟨⟨heap_alloc_new w _, h.keep fun k hk => Below.heap_alloc w _ k hk⟩, (Below.refl _ _).alloc (Nat.le_refl _) _⟩
theorem numPost_mk {w wr : World} {A : Option Addr} {len cap p : Nat} {r : Int} {e : Ending} (h : NInv w wr A len cap p) (h1 : -2147483648 ≤ r) (h2 : r ≤ 2147483647) (he : e = .returned (.int .i32 r)) : NumPost w e wr := ⟨r, he, h1, h2, h.2⟩

set_option maxHeartbeats 1000000 in
theorem number_any (A : Option Addr) (len cap : Nat) (w : World) (h : Bytes w w.heap.size A len) :
    Calls Tryd.prog 29 #[.slice A len cap] w (NumPost w) := by
  have H0 := Lib.hid (NInv.start h cap)
  clear h
  go_enter Tryd.func29, Tryd.ntmps29
  go_wp2_with fail
  refine (pick_any w.heap.size A len cap 0 256 _ H0.out.1 (by omega) (by omega)).mono ?_
  rintro e w1 ⟨a, a1, a2, rfl, hrd, hgr⟩
  have H1 := Lib.hid (H0.out.step hrd hgr)
  have a3 := a2 (by omega)
  clear hrd hgr H0 a2
  go_wp2_with fail
  refine (pick_any w.heap.size A len cap 1 256 _ H1.out.1 (by omega) (by omega)).mono ?_
  rintro e w2 ⟨b, b1, b2, rfl, hrd, hgr⟩
  have H2 := Lib.hid (H1.out.step hrd hgr)
  have b3 := b2 (by omega)
  clear hrd hgr H1 b2
  go_wp2_with fail
  refine (pick_any w.heap.size A len cap 2 4 _ H2.out.1 (by omega) (by omega)).mono ?_
  rintro e w3 ⟨d, d1, d2, rfl, hrd, hgr⟩
  have H3 := Lib.hid (H2.out.step hrd hgr)
  clear hrd hgr H2 d2
  by_cases e0 : (d == 0) = true
  · go_wp2
    go_ret
    exact numPost_mk H3.out (by omega) (by omega) rfl
  have e0' : (d == 0) = false := by simpa using e0
  clear e0
  by_cases e1 : (d == 1) = true
  · go_wp2
    go_ret
    exact numPost_mk H3.out (by omega) (by omega) rfl
  have e1' : (d == 1) = false := by simpa using e1
  clear e1
  by_cases e2 : (d == 2) = true
  · go_wp2_with fail
    refine (pick_any w.heap.size A len cap 3 256 _ H3.out.1 (by omega) (by omega)).mono ?_
    rintro e w4 ⟨x, x1, x2, rfl, hrd, hgr⟩
    have H4 := Lib.hid (H3.out.step hrd hgr)
    have x3 := x2 (by omega)
    clear hrd hgr H3 x2
    go_wp2_with fail
    refine (pick_any w.heap.size A len cap 4 256 _ H4.out.1 (by omega) (by omega)).mono ?_
    rintro e w5 ⟨y, y1, y2, rfl, hrd, hgr⟩
    have H5 := Lib.hid (H4.out.step hrd hgr)
    have y3 := y2 (by omega)
    clear hrd hgr H4 y2
    go_wp2
    go_ret
    exact numPost_mk H5.out (wrap32_bd _).1 (wrap32_bd _).2 rfl
  have e2' : (d == 2) = false := by simpa using e2
  clear e2
  go_wp2
  go_ret
  exact numPost_mk H3.out (by omega) (by omega) rfl
end Go.Proofs.YtfcalmjojmfooaaDoor
