/-
  THE LISTED VARIABLE unicode.CaseRanges: where it reads as the pinned table, its cells hold the table's rows. (After the guide's Derived/Lib/LaidCase.lean, turned to this translation.)
-/
import Derived.Test.YtfcalmjojmfooaaDoorBase
import Derived.Lib.LaidU8
import GoSem.PinnedTables
namespace Go.Proofs.YtfcalmjojmfooaaDoor
open Go.RowKit Go.Lib

def ofT (x : Nat × Nat × Int × Int × Int) : Row := ⟨(x.1 : Int), (x.2.1 : Int), x.2.2.1, x.2.2.2.1, x.2.2.2.2⟩
/-- The standard's table. -/
def caseS : List Row := Go.Pinned.caseRows.map ofT
set_option maxRecDepth 1000000 in
theorem caseRows_ok : (Go.Pinned.caseRows.all fun x => decide (x.1 < 2147483648) && decide (x.2.1 < 2147483647)) = true := by decide
theorem caseRows_length : Go.Pinned.caseRows.length = 336 := by kernel_rfl
theorem caseS_ok : TabOk caseS := by
  refine ⟨by rw [caseS, List.length_map, caseRows_length]; omega, fun i hi => ?_⟩
  have hm := getD_mem hi
  obtain ⟨x, hx, e⟩ := List.mem_map.1 hm
  rw [← e]
  have := List.all_eq_true.1 caseRows_ok x hx
  simp only [Bool.and_eq_true, decide_eq_true_eq] at this
  simp only [ofT]
  omega
theorem glob : Tryd.prog.globalNamed "unicode.CaseRanges" = some 0 := by kernel_rfl
theorem globType : (Tryd.prog.globals[0]?).map (·.type) = some 42 := by kernel_rfl
theorem cellsI : Tryd.prog.cellsOf 21 = 1 := by kernel_rfl
theorem cellsU : Tryd.prog.cellsOf 24 = 1 := by kernel_rfl
theorem cellsD : Tryd.prog.cellsOf 53 = 3 := by kernel_rfl
theorem cellsR : Tryd.prog.cellsOf 55 = 5 := by kernel_rfl

section
variable {H : Type} {enc : TypeId × Value → H} {w : World} {base : Nat} {sp : Nat → Bool} {held : Bool}
theorem at_take {cs : List Value} {k : Nat} {v : Value} (h : (cs.drop k).take 1 = [v]) : cs[k]? = some v := by
  have := congrArg (·[0]?) h
  simpa [List.getElem?_take, List.getElem?_drop] using this
/-- One row of the library's type that reads as (Lo, Hi, the three deltas) holds them, cell for cell. -/
theorem row_cells {fuel : Nat} {cs : List Value} {x : Nat × Nat × Int × Int × Int} {p : List MemPlace}
    (h : DataW.trod (fun _ => ()) Tryd.prog w base sp held fuel 55 cs = some (Go.Pinned.caseRange x, p)) :
    cs = [.int .u32 x.1, .int .u32 x.2.1, .int .i32 x.2.2.1, .int .i32 x.2.2.2.1, .int .i32 x.2.2.2.2] := by
  obtain ⟨xs, n, rfl, hx, hl, hxl, hall⟩ := DataW.trod_struct Tryd.underlying55 h
  rw [cellsR] at hl
  have hx3 : xs.map (·.1) = [.lit (.int .u32 x.1), .lit (.int .u32 x.2.1), .agg [.lit (.int .i32 x.2.2.1), .lit (.int .i32 x.2.2.2.1), .lit (.int .i32 x.2.2.2.2)]] := by
    have := congrArg Prod.fst hx
    simpa [Go.Pinned.caseRange] using this.symm
  obtain ⟨x0, x1, x2, rfl⟩ : ∃ x0 x1 x2, xs = [x0, x1, x2] := by
    match xs, hx3 with
    | [x0, x1, x2], _ => exact ⟨x0, x1, x2, rfl⟩
  simp only [List.map_cons, List.map_nil, List.cons.injEq, and_true] at hx3
  obtain ⟨e0, e1, e2⟩ := hx3
  have f0 := hall 0 _ rfl
  have f1 := hall 1 _ rfl
  have f2 := hall 2 _ rfl
  change DataW.trod _ _ _ _ _ _ _ 24 ((cs.drop 0).take (Tryd.prog.cellsOf 24)) = some x0 at f0
  change DataW.trod _ _ _ _ _ _ _ 24 ((cs.drop 1).take (Tryd.prog.cellsOf 24)) = some x1 at f1
  change DataW.trod _ _ _ _ _ _ _ 53 ((cs.drop 2).take (Tryd.prog.cellsOf 53)) = some x2 at f2
  rw [cellsU] at f0 f1
  rw [cellsD] at f2
  have g0 : cs[0]? = some (.int .u32 x.1) := by
    obtain ⟨z, hz, hx', _⟩ := DataW.trod_int Tryd.underlying24 f0
    rw [hx'] at e0
    cases e0
    exact at_take hz
  have g1 : cs[1]? = some (.int .u32 x.2.1) := by
    obtain ⟨z, hz, hx', _⟩ := DataW.trod_int Tryd.underlying24 f1
    rw [hx'] at e1
    cases e1
    exact at_take hz
  obtain ⟨y2, q2⟩ := x2
  simp only at e2
  subst e2
  have gd : ∀ (i : Nat) (d : Int), i < 3 → ([DataW.lit (.int .i32 x.2.2.1), .lit (.int .i32 x.2.2.2.1), .lit (.int .i32 x.2.2.2.2)] : List (DataW Unit))[i]? = some (.lit (.int .i32 d)) → cs[2 + i]? = some (.int .i32 d) := by
    intro i d hi hd
    obtain ⟨fuel', d', q, hd', ht⟩ := array_elem Tryd.underlying53 f2 i hi
    rw [cellsI] at ht
    rw [hd] at hd'
    cases hd'
    obtain ⟨z, hz, hx', _⟩ := DataW.trod_int Tryd.underlying21 ht
    cases hx'
    have h1 := at_take hz
    rw [Nat.mul_one, List.getElem?_take, if_pos hi, List.getElem?_drop] at h1
    exact h1
  have g2 := gd 0 _ (by omega) rfl
  have g3 := gd 1 _ (by omega) rfl
  have g4 := gd 2 _ (by omega) rfl
  match cs, hl, g0, g1, g2, g3, g4 with
  | [c0, c1, c2, c3, c4], _, g0, g1, g2, g3, g4 =>
    simp at g0 g1 g2 g3 g4
    subst g0 g1 g2 g3 g4
    rfl
end

theorem caseS_get {i : Nat} {x : Nat × Nat × Int × Int × Int} (h : Go.Pinned.caseRows[i]? = some x) : caseS.getD i z5 = ofT x := by
  rw [List.getD_eq_getElem?_getD, caseS, List.getElem?_map, h]
  rfl

theorem cv_of_reads {w : World} (h : VarReads Tryd.prog w "unicode.CaseRanges" Go.Pinned.caseRanges) : CV w caseS := by
  obtain ⟨g, t, cs, fuel, p, hg, hty, hvar, hd⟩ := h
  obtain rfl := Option.some.inj (glob.symm.trans hg)
  obtain rfl := Option.some.inj (globType.symm.trans hty)
  rcases DataW.trod_slice Tryd.underlying42 hd with ⟨_, hx'⟩ | ⟨a', len, cap, el, rs, m, rfl, hc0, hx', _, hlc, _, hel, helem, hsp, _⟩
  · cases hx'
  have e0 := congrArg Prod.fst hx'
  simp only [Go.Pinned.caseRanges, DataW.slice.injEq] at e0
  obtain ⟨eE, eR⟩ := e0
  have hlen : len = Go.Pinned.caseRows.length := by
    have := congrArg List.length eE
    simp at this
    omega
  have hsz : caseS.length = len := by rw [hlen]; simp [caseS]
  have hrow : ∀ i, i < len → ∀ j, j < 5 → w.cell? ((a'.add (i * 5)).add j) = ([.int .u32 (caseS.getD i z5).lo, .int .u32 (caseS.getD i z5).hi, .int .i32 (caseS.getD i z5).d0, .int .i32 (caseS.getD i z5).d1, .int .i32 (caseS.getD i z5).d2] : List Value)[j]? := by
    intro i hi j hj
    have h1 := helem i hi
    rw [cellsR] at h1
    obtain ⟨b, hb⟩ : ∃ b, el[i]? = some b := ⟨el[i]'(by omega), List.getElem?_eq_getElem (by omega)⟩
    rw [hb] at h1
    obtain ⟨ce, hce, hte⟩ := Option.bind_eq_some_iff.1 h1
    obtain ⟨x, hx⟩ : ∃ x, Go.Pinned.caseRows[i]? = some x := ⟨Go.Pinned.caseRows[i]'(by omega), List.getElem?_eq_getElem (by omega)⟩
    have hb1 : b.1 = Go.Pinned.caseRange x := by
      have := congrArg (·[i]?) eE
      simp only [List.getElem?_map, hb, hx, Option.map_some, Option.some.injEq] at this
      exact this.symm
    have hcs := row_cells (p := b.2) (x := x) (by rw [← hb1]; exact hte)
    obtain ⟨_, _, hcc⟩ := World.cells?_some hce
    rw [hcc j hj, hcs, caseS_get hx]
    rfl
  obtain ⟨R, oR, sR⟩ := a'
  have hpos : 0 < len := by
    have := caseRows_length
    omega
  obtain rfl : sR = none := by
    have h00 := hrow 0 hpos 0 (by omega)
    have : (Addr.add (Addr.add ⟨R, oR, sR⟩ (0 * 5)) 0) = ⟨R, oR, sR⟩ := by simp [Addr.add]
    rw [this] at h00
    exact cell_spot h00
  have hcell : Cells w R oR caseS := fun i hi => by
    rw [hsz] at hi
    have k0 := hrow i hi 0 (by omega)
    have k1 := hrow i hi 1 (by omega)
    have k2 := hrow i hi 2 (by omega)
    have k3 := hrow i hi 3 (by omega)
    have k4 := hrow i hi 4 (by omega)
    rw [Addr.add_lit, Addr.add_lit] at k0 k1 k2 k3 k4
    exact ⟨by simpa using k0, by simpa using k1, by simpa using k2, by simpa using k3, by simpa using k4⟩
  have hvc : w.cell? ⟨0, 0, none⟩ = some (.slice (some ⟨R, oR, none⟩) caseS.length cap) := by
    rw [World.var?_cell hg hvar 0, ← Array.getElem?_toList, hc0, hsz]
    rfl
  exact ⟨R, oR, cap, World.block_lt_of_cell? w _ hvc, World.block_lt_of_cell? w _ (hcell 0 (by rw [hsz]; exact hpos)).1, hvc, hcell⟩
end Go.Proofs.YtfcalmjojmfooaaDoor
