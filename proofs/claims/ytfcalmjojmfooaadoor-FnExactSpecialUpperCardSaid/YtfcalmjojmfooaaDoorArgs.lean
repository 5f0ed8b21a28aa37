/-
  AN ARGUMENT THAT IS A LIST OF RANGES, opened: it reads as some list of rows.
-/
import Derived.Test.YtfcalmjojmfooaaDoorLaw
import Derived.SizedLaws
namespace Go.Proofs.YtfcalmjojmfooaaDoor
open Go.RowKit Go.ChangeShapes Go.WideShapes Go.ChangeAt

theorem cellsR2 : Tryd.prog.cellsOf 27 = 5 := by kernel_rfl
theorem cellsD2 : Tryd.prog.cellsOf 25 = 3 := by kernel_rfl
theorem bytesR2 : Tryd.prog.bytesOf 27 = 20 := by kernel_rfl
section
variable {H : Type} {enc : TypeId × Value → H} {w : World} {base : Nat} {sp : Nat → Bool} {held : Bool}
theorem bd_i32 {n : Int} (h : (Lit.int .i32 n).wf = true) : -2147483648 ≤ n ∧ n ≤ 2147483647 := by simpa [Lit.wf, IntKind.min, IntKind.max, IntKind.signed, IntKind.bits] using h
theorem bd_u32 {n : Int} (h : (Lit.int .u32 n).wf = true) : 0 ≤ n ∧ n ≤ 4294967295 := by simpa [Lit.wf, IntKind.min, IntKind.max, IntKind.signed, IntKind.bits] using h
/-- One range that can be read holds five numbers that fit. -/
theorem row_any {fuel : Nat} {cs : List Value} {y : DataW H × List MemPlace} (h : DataW.trod enc Tryd.prog w base sp held fuel 27 cs = some y) :
    ∃ x : Row, x.wf ∧ cs = [.int .u32 x.lo, .int .u32 x.hi, .int .i32 x.d0, .int .i32 x.d1, .int .i32 x.d2] := by
  obtain ⟨xs, n, rfl, hx, hl, hxl, hall⟩ := DataW.trod_struct Tryd.underlying27 h
  rw [cellsR2] at hl
  have hxl3 : xs.length = 3 := hxl
  obtain ⟨x0, x1, x2, rfl⟩ : ∃ x0 x1 x2, xs = [x0, x1, x2] := by
    match xs, hxl3 with
    | [x0, x1, x2], _ => exact ⟨x0, x1, x2, rfl⟩
  have f0 := hall 0 _ rfl
  have f1 := hall 1 _ rfl
  have f2 := hall 2 _ rfl
  change DataW.trod _ _ _ _ _ _ _ 24 ((cs.drop 0).take (Tryd.prog.cellsOf 24)) = some x0 at f0
  change DataW.trod _ _ _ _ _ _ _ 24 ((cs.drop 1).take (Tryd.prog.cellsOf 24)) = some x1 at f1
  change DataW.trod _ _ _ _ _ _ _ 25 ((cs.drop 2).take (Tryd.prog.cellsOf 25)) = some x2 at f2
  rw [cellsU] at f0 f1
  rw [cellsD2] at f2
  obtain ⟨a0, h0, -, w0⟩ := DataW.trod_int Tryd.underlying24 f0
  obtain ⟨a1, h1, -, w1⟩ := DataW.trod_int Tryd.underlying24 f1
  obtain ⟨ys, m, -, -, -, hyl, hel⟩ := DataW.trod_array Tryd.underlying25 f2
  have gd : ∀ i : Nat, i < 3 → ∃ d : Int, -2147483648 ≤ d ∧ d ≤ 2147483647 ∧ cs[2 + i]? = some (.int .i32 d) := by
    intro i hi
    have e := hel i hi
    rw [cellsI] at e
    obtain ⟨z, hz⟩ : ∃ z, ys[i]? = some z := ⟨ys[i]'(by omega), List.getElem?_eq_getElem (by omega)⟩
    rw [hz] at e
    obtain ⟨d, hd, -, wd⟩ := DataW.trod_int Tryd.underlying21 e
    have q := at_take hd
    rw [Nat.mul_one, List.getElem?_take, if_pos hi, List.getElem?_drop] at q
    exact ⟨d, (bd_i32 wd).1, (bd_i32 wd).2, q⟩
  obtain ⟨d0, p0, p1, g2⟩ := gd 0 (by omega)
  obtain ⟨d1, p2, p3, g3⟩ := gd 1 (by omega)
  obtain ⟨d2, p4, p5, g4⟩ := gd 2 (by omega)
  have g0 := at_take h0
  have g1 := at_take h1
  have b0 := bd_u32 w0
  have b1 := bd_u32 w1
  refine ⟨⟨a0, a1, d0, d1, d2⟩, ⟨b0.1, b0.2, b1.1, b1.2, p0, p1, p2, p3, p4, p5⟩, ?_⟩
  match cs, hl, g0, g1, g2, g3, g4 with
  | [c0, c1, c2, c3, c4], _, g0, g1, g2, g3, g4 =>
    simp at g0 g1 g2 g3 g4
    subst g0 g1 g2 g3 g4
    rfl
end

theorem lst_of {H : Type} {enc : TypeId × Value → H} {W : World} {a0 : Option Addr} {len0 cap0 : Nat} {d : DataW H} {p : List MemPlace} (h : DataW.Trod enc Tryd.prog W 0 (fun _ => true) true 28 (.slice a0 len0 cap0) d p) :
    ∃ T : List Row, len0 = T.length ∧ Lst W a0 T ∧ Wf T ∧ (T.length = 0 ∨ ∃ es rs, d = .slice es rs ∧ es.length = T.length) := by
  obtain ⟨fuel, hf⟩ := h
  rcases DataW.trod_slice Tryd.underlying28 hf with ⟨hcs, _⟩ | ⟨a, len, cap, el, rs, m, rfl, hcs, hx, _, hlc, _, hel, helem, _, _⟩
  · simp [Value.cells] at hcs
    obtain ⟨rfl, rfl, rfl⟩ := hcs
    exact ⟨[], rfl, (fun h => absurd h (by simp)), (fun x hx => by cases hx), .inl rfl⟩
  · simp [Value.cells] at hcs
    obtain ⟨rfl, rfl, rfl⟩ := hcs
    have hrow : ∀ i, i < len0 → ∃ x : Row, x.wf ∧ ∀ j, j < 5 → W.cell? ((a.add (i * 5)).add j) = x.cells[j]? := by
      intro i hi
      have h1 := helem i hi
      rw [cellsR2] at h1
      obtain ⟨b, hb⟩ : ∃ b, el[i]? = some b := ⟨el[i]'(by omega), List.getElem?_eq_getElem (by omega)⟩
      rw [hb] at h1
      obtain ⟨ce, hce, hte⟩ := Option.bind_eq_some_iff.1 h1
      obtain ⟨x, hw, hcx⟩ := row_any hte
      obtain ⟨_, _, hcc⟩ := World.cells?_some hce
      exact ⟨x, hw, fun j hj => by rw [hcc j hj, hcx]; rfl⟩
    obtain ⟨f, hfw⟩ : ∃ f : Nat → Row, ∀ i, i < len0 → (f i).wf ∧ ∀ j, j < 5 → W.cell? ((a.add (i * 5)).add j) = (f i).cells[j]? := by
      refine ⟨fun i => if hi : i < len0 then Classical.choose (hrow i hi) else z5, fun i hi => ?_⟩
      simp only [dif_pos hi]
      exact Classical.choose_spec (hrow i hi)
    have hlen : ((List.range len0).map f).length = len0 := by simp
    have hget : ∀ i, i < len0 → ((List.range len0).map f).getD i z5 = f i := fun i hi => by
      rw [List.getD_eq_getElem?_getD]
      simp [hi]
    refine ⟨(List.range len0).map f, hlen.symm, fun hpos => ?_, fun x hx => ?_, ?_⟩
    · rw [hlen] at hpos
      obtain ⟨R, oR, sR⟩ := a
      have h00 := (hfw 0 hpos).2 0 (by omega)
      obtain rfl : sR = none := by
        have : (Addr.add (Addr.add ⟨R, oR, sR⟩ (0 * 5)) 0) = ⟨R, oR, sR⟩ := by simp [Addr.add]
        rw [this] at h00
        exact cell_spot h00
      have hcell : Cells W R oR ((List.range len0).map f) := fun i hi => by
        rw [hlen] at hi
        rw [hget i hi]
        have k0 := (hfw i hi).2 0 (by omega)
        have k1 := (hfw i hi).2 1 (by omega)
        have k2 := (hfw i hi).2 2 (by omega)
        have k3 := (hfw i hi).2 3 (by omega)
        have k4 := (hfw i hi).2 4 (by omega)
        rw [Addr.add_lit, Addr.add_lit] at k0 k1 k2 k3 k4
        exact ⟨by simpa [Row.cells] using k0, by simpa [Row.cells] using k1, by simpa [Row.cells] using k2, by simpa [Row.cells] using k3, by simpa [Row.cells] using k4⟩
      exact ⟨R, oR, rfl, World.block_lt_of_cell? W _ (hcell 0 (by rw [hlen]; exact hpos)).1, hcell⟩
    · obtain ⟨i, hi, rfl⟩ := List.mem_map.1 hx
      exact (hfw i (List.mem_range.1 hi)).1
    · refine .inr ⟨el.map (·.1), rs.map (·.1), ?_, by simp [hel]⟩
      have := congrArg Prod.fst hx
      simpa using this
end Go.Proofs.YtfcalmjojmfooaaDoor
