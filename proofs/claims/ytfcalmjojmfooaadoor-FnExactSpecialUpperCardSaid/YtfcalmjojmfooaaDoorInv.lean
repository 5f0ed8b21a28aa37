/-
  WHAT IS KEPT WHILE THE INPUT IS DRAWN: the reader, the slice that is made, the struct of the round.
-/
import Derived.Test.YtfcalmjojmfooaaDoorOwn
import Derived.Test.YtfcalmjojmfooaaDoorPick
namespace Go.Proofs.YtfcalmjojmfooaaDoor
open Go.RowKit

theorem grownBy_trans {a b c : World} {row : Option Nat} (h : a.grownBy b row) (k : b.grownBy c row) : a.grownBy c row :=
  ⟨k.os.trans h.os, k.tape.trans h.tape, k.output.trans h.output, Nat.le_trans h.size k.size, fun i hi hne => (k.block i (Nat.lt_of_lt_of_le hi h.size) hne).trans (h.block i hi hne)⟩
theorem grownBy_set {a b : World} {row : Option Nat} (h : a.grownBy b row) {p : Addr} (hp : a.heap.size ≤ p.block) (u : Value) : a.grownBy (b.setCell p u) row :=
  ⟨h.os, h.tape, h.output, by simp only [World.setCell, Array.size_modify]; exact h.size, fun i hi hne => (Below.heap_setCell b p u i (by omega)).trans (h.block i hi hne)⟩

/-- The reader in block g; the slice v owns the rows T; of what was there in w nothing has changed but the reader. -/
structure SInv (w wr : World) (g : Nat) (A : Option Addr) (len cap p : Nat) (v : Value) (T : List Row) : Prop where
  rd : Rd wr g A len cap p
  own : Own wr w.heap.size 27 v T
  gr : w.grownBy wr (some g)
  lt : g < w.heap.size
theorem SInv.alloc {w wr : World} {g : Nat} {A : Option Addr} {len cap p : Nat} {v : Value} {T : List Row} (h : SInv w wr g A len cap p v T) (o : Obj) : SInv w (wr.alloc o) g A len cap p v T :=
  ⟨h.rd.alloc o, h.own.alloc o, grownBy_trans h.gr (World.grownBy_alloc wr o _), h.lt⟩
theorem SInv.own_ne {w wr : World} {g : Nat} {A : Option Addr} {len cap p : Nat} {v : Value} {T : List Row} (h : SInv w wr g A len cap p v T) : v.ownBlock ≠ some g := by
  obtain ⟨b, cp, rfl, hb, _⟩ := h.own.form
  have := h.lt
  simp [Value.ownBlock]
  omega
theorem SInv.step {w wr w1 : World} {g : Nat} {A : Option Addr} {len cap p p' : Nat} {v : Value} {T : List Row} (h : SInv w wr g A len cap p v T) (hrd : Rd w1 g A len cap p') (hg : wr.grownBy w1 (some g)) : SInv w w1 g A len cap p' v T :=
  ⟨hrd, h.own.keep hg h.own_ne, grownBy_trans h.gr hg, h.lt⟩
theorem SInv.drew {w wr : World} {g : Nat} {A : Option Addr} {len cap p : Nat} {v : Value} {T : List Row} (h : SInv w wr g A len cap p v T) : SInv w wr.drew g A len cap p v T := ⟨h.rd, h.own, ⟨h.gr.os, h.gr.tape, h.gr.output, h.gr.size, h.gr.block⟩, h.lt⟩
theorem SInv.size {w wr : World} {g : Nat} {A : Option Addr} {len cap p : Nat} {v : Value} {T : List Row} (h : SInv w wr g A len cap p v T) : w.heap.size ≤ wr.heap.size := h.gr.size

/-- .. and the struct x in block xb. -/
structure RInv (w wr : World) (g : Nat) (A : Option Addr) (len cap p : Nat) (v : Value) (T : List Row) (xb : Nat) (x : Row) : Prop where
  s : SInv w wr g A len cap p v T
  blk : wr.heap[xb]? = some (.cells #[.int .u32 x.lo, .int .u32 x.hi, .int .i32 x.d0, .int .i32 x.d1, .int .i32 x.d2] 27 (0, 0))
  lo : w.heap.size ≤ xb
  ne : v.ownBlock ≠ some xb
section
variable {w wr w1 : World} {g : Nat} {A : Option Addr} {len cap p p' : Nat} {v : Value} {T : List Row} {xb : Nat} {x : Row}
theorem RInv.lt (h : RInv w wr g A len cap p v T xb x) : xb < wr.heap.size := (Array.getElem?_eq_some_iff.1 h.blk).1
theorem RInv.ne_g (h : RInv w wr g A len cap p v T xb x) : xb ≠ g := by have := h.s.lt; have := h.lo; omega
theorem RInv.start (h : SInv w wr g A len cap p v T) (x : Row) : RInv w (wr.alloc x.blk) g A len cap p v T wr.heap.size x :=
  ⟨h.alloc _, heap_alloc_new wr _, h.size, by
    obtain ⟨b, cp, rfl, _, hb, _⟩ := h.own.form
    simp [Value.ownBlock]
    omega⟩
theorem RInv.alloc (h : RInv w wr g A len cap p v T xb x) (o : Obj) : RInv w (wr.alloc o) g A len cap p v T xb x :=
  ⟨h.s.alloc o, (Below.heap_alloc wr o xb h.lt).trans h.blk, h.lo, h.ne⟩
theorem RInv.drew (h : RInv w wr g A len cap p v T xb x) : RInv w wr.drew g A len cap p v T xb x := ⟨h.s.drew, h.blk, h.lo, h.ne⟩
theorem RInv.step (h : RInv w wr g A len cap p v T xb x) (hrd : Rd w1 g A len cap p') (hg : wr.grownBy w1 (some g)) : RInv w w1 g A len cap p' v T xb x :=
  ⟨h.s.step hrd hg, (hg.block xb h.lt (by have := h.ne_g; simpa using this)).trans h.blk, h.lo, h.ne⟩
theorem RInv.cells (h : RInv w wr g A len cap p v T xb x) : wr.cell? ⟨xb, 0, none⟩ = some (.int .u32 x.lo) ∧ wr.cell? ⟨xb, 1, none⟩ = some (.int .u32 x.hi) ∧ wr.cell? ⟨xb, 2, none⟩ = some (.int .i32 x.d0) ∧ wr.cell? ⟨xb, 3, none⟩ = some (.int .i32 x.d1) ∧ wr.cell? ⟨xb, 4, none⟩ = some (.int .i32 x.d2) :=
  ⟨cell_of_row wr xb 0 _ _ _ h.blk, cell_of_row wr xb 1 _ _ _ h.blk, cell_of_row wr xb 2 _ _ _ h.blk, cell_of_row wr xb 3 _ _ _ h.blk, cell_of_row wr xb 4 _ _ _ h.blk⟩
theorem RInv.free (h : RInv w wr g A len cap p v T xb x) (j : Nat) : wr.frozen? ⟨xb, j, none⟩ = false := by simp [World.frozen?, h.blk]
theorem RInv.cellD (h : RInv w wr g A len cap p v T xb x) {j : Nat} (hj : j < 3) : wr.cell? ⟨xb, 2 + j, none⟩ = some (.int .i32 (x.delta j)) := by
  have hj3 : j = 0 ∨ j = 1 ∨ j = 2 := by omega
  rcases hj3 with rfl | rfl | rfl
  · exact h.cells.2.2.1
  · exact h.cells.2.2.2.1
  · exact h.cells.2.2.2.2
/-- Any store into the struct's block. -/
theorem RInv.set_ (h : RInv w wr g A len cap p v T xb x) {j : Nat} {u : Value} {x' : Row}
    (he : (#[.int .u32 x.lo, .int .u32 x.hi, .int .i32 x.d0, .int .i32 x.d1, .int .i32 x.d2] : Array Value).setIfInBounds j u = #[.int .u32 x'.lo, .int .u32 x'.hi, .int .i32 x'.d0, .int .i32 x'.d1, .int .i32 x'.d2]) :
    RInv w (wr.setCell ⟨xb, j, none⟩ u) g A len cap p v T xb x' := by
  have hne := h.ne_g
  have hg := h.s.lt
  have hlo := h.lo
  have ho : ∀ k, k ≠ xb → (wr.setCell ⟨xb, j, none⟩ u).heap[k]? = wr.heap[k]? := fun k hk => Below.heap_setCell wr _ _ k hk
  refine ⟨⟨h.s.rd.keep fun k hk => ho k (by omega), ?_, grownBy_set h.s.gr hlo u, hg⟩, ?_, hlo, h.ne⟩
  · refine ⟨⟨h.s.own.1.1, ?_⟩, h.s.own.2⟩
    rcases h.s.own.1.2 with hn | ⟨b, cp, cur, hv, hB, hb, r⟩
    · exact .inl hn
    · refine .inr ⟨b, cp, cur, hv, hB, ?_, r⟩
      rw [ho b (fun e => h.ne (by rw [hv, e]; rfl))]
      exact hb
  · rw [← he]
    simp [World.setCell, Array.getElem?_modify, h.blk]
theorem RInv.setHi (h : RInv w wr g A len cap p v T xb x) (d : Int) : RInv w (wr.setCell ⟨xb, 1, none⟩ (.int .u32 d)) g A len cap p v T xb ⟨x.lo, d, x.d0, x.d1, x.d2⟩ := h.set_ rfl
def Row.setD (x : Row) (j : Nat) (d : Int) : Row := if j = 0 then ⟨x.lo, x.hi, d, x.d1, x.d2⟩ else if j = 1 then ⟨x.lo, x.hi, x.d0, d, x.d2⟩ else ⟨x.lo, x.hi, x.d0, x.d1, d⟩
theorem RInv.setD (h : RInv w wr g A len cap p v T xb x) {j : Nat} (hj : j < 3) (d : Int) : RInv w (wr.setCell ⟨xb, 2 + j, none⟩ (.int .i32 d)) g A len cap p v T xb (x.setD j d) := by
  have hj3 : j = 0 ∨ j = 1 ∨ j = 2 := by omega
  rcases hj3 with rfl | rfl | rfl
  · exact h.set_ (x' := ⟨x.lo, x.hi, d, x.d1, x.d2⟩) rfl
  · exact h.set_ (x' := ⟨x.lo, x.hi, x.d0, d, x.d2⟩) rfl
  · exact h.set_ (x' := ⟨x.lo, x.hi, x.d0, x.d1, d⟩) rfl
theorem setD_lo (x : Row) (j : Nat) (d : Int) : (x.setD j d).lo = x.lo ∧ (x.setD j d).hi = x.hi := by
  unfold Row.setD
  split
  · exact ⟨rfl, rfl⟩
  · split <;> exact ⟨rfl, rfl⟩
theorem setD_wf {x : Row} (h : x.wf) (j : Nat) {d : Int} (h1 : -2147483648 ≤ d) (h2 : d ≤ 2147483647) : (x.setD j d).wf := by
  obtain ⟨a1, a2, a3, a4, a5, a6, a7, a8, a9, a10⟩ := h
  unfold Row.setD
  split
  · exact ⟨a1, a2, a3, a4, h1, h2, a7, a8, a9, a10⟩
  · split
    · exact ⟨a1, a2, a3, a4, a5, a6, h1, h2, a9, a10⟩
    · exact ⟨a1, a2, a3, a4, a5, a6, a7, a8, h1, h2⟩
/-- Behind an append of the struct. -/
theorem RInv.grow {W w' : World} {v' : Value} {n : Nat} (h : RInv w W g A len cap p v T xb x) (hnil : ¬ v' = .slice none 0 0) (hn : n = T.length + 1)
    (hown : w'.ownsRow w.heap.size 27 5 v' n (flat T ++ x.cells)) (hg : W.grownBy w' v.ownBlock) :
    SInv w w' g A len cap p v' (T ++ [x]) ∧ w'.heap[xb]? = some (.cells #[.int .u32 x.lo, .int .u32 x.hi, .int .i32 x.d0, .int .i32 x.d1, .int .i32 x.d2] 27 (0, 0)) := by
  have hb : ∀ k, v.ownBlock = some k → w.heap.size ≤ k := fun k hk => (h.s.own.1.lt k hk).1
  have hlt := h.s.lt
  have hgW := h.s.rd.lt
  refine ⟨⟨h.s.rd.keep fun k hk => hg.block k (by omega) (fun e => by have := hb k e.symm; omega), Own.grow hnil hn hown, ?_, hlt⟩, (hg.block xb h.lt (fun e => h.ne e.symm)).trans h.blk⟩
  have hgr := h.s.gr
  exact ⟨hg.os.trans hgr.os, hg.tape.trans hgr.tape, hg.output.trans hgr.output, Nat.le_trans hgr.size hg.size, fun i hi hne => (hg.block i (Nat.lt_of_lt_of_le hi hgr.size) (fun e => by have := hb i e.symm; omega)).trans (hgr.block i hi hne)⟩
end
end Go.Proofs.YtfcalmjojmfooaaDoor
