/-
  WHAT ALL LAWS SHARE: the input's bytes, what DrawSpecial leaves, what is kept from call to call, and how an argument of bytes is opened.
-/
import Derived.Test.YtfcalmjojmfooaaDoorImpk
import Derived.Test.YtfcalmjojmfooaaDoorValid
import Derived.Test.YtfcalmjojmfooaaDoorTab
import Derived.Test.YtfcalmjojmfooaaDoorDraw
import Derived.WalkKit
import Derived.ProofKit
import Derived.OpenShut
import Derived.ChangeOld
import Derived.Below
import Derived.Lay
import Derived.SevenTiedAt
namespace Go.Proofs.YtfcalmjojmfooaaDoor
open Go.RowKit Go.ChangeShapes Go.WideShapes Go.ChangeAt

/-- The input's bytes can be read. -/
def BytesArg (w : World) (A : Option Addr) (len : Nat) : Prop :=
  0 < len → ∃ b o, A = some ⟨b, o, none⟩ ∧ b < w.heap.size ∧ ∀ i, i < len → ∃ c : Int, 0 ≤ c ∧ c ≤ 255 ∧ w.cell? ⟨b, o + i, none⟩ = some (.int .u8 c)
theorem BytesArg.below {w w' : World} {A : Option Addr} {len : Nat} (h : BytesArg w A len) (hb : Below w.heap.size w w') : BytesArg w' A len := fun hl => by
  obtain ⟨b, o, rfl, hlt, hc⟩ := h hl
  refine ⟨b, o, rfl, Nat.lt_of_lt_of_le hlt hb.size, fun i hi => ?_⟩
  obtain ⟨c, h0, h1, hcell⟩ := hc i hi
  exact ⟨c, h0, h1, (hb.cell (p := ⟨b, o + i, none⟩) hlt).trans hcell⟩
theorem BytesArg.bytes {w : World} {A : Option Addr} {len : Nat} (h : BytesArg w A len) (hl : len ≤ 1048576) : Bytes w w.heap.size A len := ⟨hl, h⟩

/-- What is kept from call to call. -/
structure LInv (w wx : World) (A : Option Addr) (T : List Row) : Prop where
  lst : Lst wx A T
  cv : CV wx caseS
  bel : Below w.heap.size w wx
theorem LInv.below {w wx wy : World} {A : Option Addr} {T : List Row} (h : LInv w wx A T) (hb : Below wx.heap.size wx wy) : LInv w wy A T :=
  ⟨h.lst.below hb, h.cv.below hb, h.bel.trans (hb.mono h.bel.size)⟩
/-- The lists that laws make must not be kept: two lists at once. -/
theorem Own.list {w : World} {B e : Nat} {v : Value} {T : List Row} (h : Own w B e v T) : ∃ A cp, v = .slice A T.length cp ∧ Lst w A T := h.lst

theorem Wf_nil : Wf [] := fun x hx => by cases hx
theorem Srt_nil : Srt [] := ⟨(fun x hx => by cases hx), List.Pairwise.nil⟩
theorem Wf_one {x : Row} (h : x.wf) : Wf [x] := fun y hy => by
  obtain rfl : y = x := by simpa using hy
  exact h
theorem Srt_one {x : Row} (h : x.ok) : Srt [x] := by
  refine ⟨fun y hy => ?_, List.pairwise_singleton _ _⟩
  obtain rfl : y = x := by simpa using hy
  exact h
theorem lst_one (w : World) (x : Row) : Lst (w.alloc x.blk) (some ⟨w.heap.size, 0, none⟩) [x] := fun _ => ⟨w.heap.size, 0, rfl, by simp, fun i hi => by
  obtain rfl : i = 0 := by simpa using hi
  exact ⟨World.cell?_alloc_new w _ _ _, World.cell?_alloc_new w _ _ _, World.cell?_alloc_new w _ _ _, World.cell?_alloc_new w _ _ _, World.cell?_alloc_new w _ _ _⟩⟩
theorem sp_one {S : Int → Int} {c : Nat} {x : Row} {r : Int} (h : x.has r = true) : sp S c [x] r = wrap32 (conv c r x) := sp_some (by simp [h])

theorem own : ownKnob Tryd.prog.godebug = none := by kernel_rfl
theorem laidOut : laidOutB Tryd.prog = true := by kernel_rfl
theorem cellsB : Tryd.prog.cellsOf 5 = 1 := by kernel_rfl
theorem bytes_of {H : Type} {enc : TypeId × Value → H} {W : World} {a0 : Option Addr} {len0 cap0 : Nat} {d : DataW H} {p : List MemPlace} (h : DataW.Trod enc Tryd.prog W 0 (fun _ => true) true 22 (.slice a0 len0 cap0) d p) : BytesArg W a0 len0 := by
  obtain ⟨fuel, hf⟩ := h
  rcases open_ints Tryd.underlying22 Tryd.underlying5 cellsB hf with ⟨hcs, _⟩ | ⟨x, l, c, zs, hcs, _, hl, hm, hz, _, hcell, hwz⟩
  · simp [Value.cells] at hcs
    obtain ⟨rfl, rfl, rfl⟩ := hcs
    exact fun h => absurd h (by omega)
  · simp [Value.cells] at hcs
    obtain ⟨rfl, rfl, rfl⟩ := hcs
    have hz' : zs.length = cap0 := by simpa using hz
    intro hlen
    obtain ⟨b, off, spot⟩ := x
    have hc0 := hcell 0 (by omega)
    have hspot : spot = none := by simpa [Addr.add] using World.cell?_spot hc0
    subst hspot
    refine ⟨b, off, rfl, World.block_lt_of_cell? W _ hc0, fun i hi => ?_⟩
    have hm' : zs.getD i 0 ∈ zs := by
      rw [List.getD_eq_getElem?_getD, List.getElem?_eq_getElem (by omega)]
      exact List.getElem_mem _
    have h1 := hwz _ hm'
    have h2 := hcell i (by omega)
    rw [Addr.add_lit] at h2
    generalize zs.getD i 0 = z at h1 h2
    simp [Lit.wf, IntKind.min, IntKind.max, IntKind.signed, IntKind.bits] at h1
    exact ⟨z, h1.1, h1.2, h2⟩
end Go.Proofs.YtfcalmjojmfooaaDoor
