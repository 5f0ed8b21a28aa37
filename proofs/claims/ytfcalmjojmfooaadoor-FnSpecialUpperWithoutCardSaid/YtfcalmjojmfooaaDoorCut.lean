/-
  THE REFERENCE's FUNCTIONS THAT MAKE LISTS, first part: Cut.
-/
import Derived.Test.YtfcalmjojmfooaaDoorOwn
import Derived.Maps.AppendAt
namespace Go.Proofs.YtfcalmjojmfooaaDoor
open Go.RowKit

/-- The slice v owns the rows U; nothing that was there in w has changed; the struct x lies in block xb. -/
structure OInv (w wr : World) (v : Value) (U : List Row) (xb : Nat) (x : Row) : Prop where
  own : Own wr w.heap.size 27 v U
  bel : Below w.heap.size w wr
  blk : wr.heap[xb]? = some (.cells #[.int .u32 x.lo, .int .u32 x.hi, .int .i32 x.d0, .int .i32 x.d1, .int .i32 x.d2] 27 (0, 0))
  lo : w.heap.size ≤ xb
  ne : v.ownBlock ≠ some xb
section
variable {w wr w1 : World} {v : Value} {U : List Row} {xb : Nat} {x : Row}
theorem OInv.lt (h : OInv w wr v U xb x) : xb < wr.heap.size := (Array.getElem?_eq_some_iff.1 h.blk).1
theorem OInv.start (hown : Own wr w.heap.size 27 v U) (hb : Below w.heap.size w wr) (x : Row) : OInv w (wr.alloc x.blk) v U wr.heap.size x :=
  ⟨hown.alloc _, hb.alloc hb.size _, heap_alloc_new wr _, hb.size, by
    obtain ⟨b, cp, rfl, _, hlt, _⟩ := hown.form
    simp [Value.ownBlock]
    omega⟩
theorem OInv.alloc (h : OInv w wr v U xb x) (o : Obj) : OInv w (wr.alloc o) v U xb x :=
  ⟨h.own.alloc o, h.bel.alloc h.bel.size o, (Below.heap_alloc wr o xb h.lt).trans h.blk, h.lo, h.ne⟩
theorem OInv.below (h : OInv w wr v U xb x) (hb : Below wr.heap.size wr w1) : OInv w w1 v U xb x :=
  ⟨h.own.below hb, h.bel.trans (hb.mono h.bel.size), (hb.block xb h.lt).trans h.blk, h.lo, h.ne⟩
theorem OInv.cells (h : OInv w wr v U xb x) : wr.cell? ⟨xb, 0, none⟩ = some (.int .u32 x.lo) ∧ wr.cell? ⟨xb, 1, none⟩ = some (.int .u32 x.hi) ∧ wr.cell? ⟨xb, 2, none⟩ = some (.int .i32 x.d0) ∧ wr.cell? ⟨xb, 3, none⟩ = some (.int .i32 x.d1) ∧ wr.cell? ⟨xb, 4, none⟩ = some (.int .i32 x.d2) :=
  ⟨cell_of_row wr xb 0 _ _ _ h.blk, cell_of_row wr xb 1 _ _ _ h.blk, cell_of_row wr xb 2 _ _ _ h.blk, cell_of_row wr xb 3 _ _ _ h.blk, cell_of_row wr xb 4 _ _ _ h.blk⟩
theorem OInv.free (h : OInv w wr v U xb x) (j : Nat) : wr.frozen? ⟨xb, j, none⟩ = false := by simp [World.frozen?, h.blk]
/-- Any store into the struct's block. -/
theorem OInv.set_ (h : OInv w wr v U xb x) {j : Nat} {u : Value} {x' : Row}
    (he : (#[.int .u32 x.lo, .int .u32 x.hi, .int .i32 x.d0, .int .i32 x.d1, .int .i32 x.d2] : Array Value).setIfInBounds j u = #[.int .u32 x'.lo, .int .u32 x'.hi, .int .i32 x'.d0, .int .i32 x'.d1, .int .i32 x'.d2]) :
    OInv w (wr.setCell ⟨xb, j, none⟩ u) v U xb x' := by
  have hlo := h.lo
  have ho : ∀ k, k ≠ xb → (wr.setCell ⟨xb, j, none⟩ u).heap[k]? = wr.heap[k]? := fun k hk => Below.heap_setCell wr _ _ k hk
  refine ⟨?_, h.bel.setCell hlo u, ?_, hlo, h.ne⟩
  · refine ⟨⟨h.own.1.1, ?_⟩, h.own.2⟩
    rcases h.own.1.2 with hn | ⟨b, cp, cur, hv, hB, hb, r⟩
    · exact .inl hn
    · refine .inr ⟨b, cp, cur, hv, hB, ?_, r⟩
      rw [ho b (fun e => h.ne (by rw [hv, e]; rfl))]
      exact hb
  · rw [← he]
    simp [World.setCell, Array.getElem?_modify, h.blk]
/-- Behind an append of one row. -/
theorem OInv.grow {W w' : World} {v' : Value} {y : Row} {n : Nat} (h : OInv w W v U xb x) (hnil : ¬ v' = .slice none 0 0) (hn : n = U.length + 1) (hown : w'.ownsRow w.heap.size 27 5 v' n (flat U ++ y.cells)) (hg : W.grownBy w' v.ownBlock) :
    Own w' w.heap.size 27 v' (U ++ [y]) ∧ Below w.heap.size w w' ∧ w'.heap[xb]? = some (.cells #[.int .u32 x.lo, .int .u32 x.hi, .int .i32 x.d0, .int .i32 x.d1, .int .i32 x.d2] 27 (0, 0)) :=
  ⟨Own.grow hnil hn hown, h.bel.grown hg h.bel.size (fun k hk => (h.own.1.lt k hk).1), (hg.block xb h.lt (fun e => h.ne e.symm)).trans h.blk⟩
theorem OInv.growAt {W w' : World} {v' : Value} {y : Row} {n : Nat} (h : OInv w W v U xb x) (hnil : ¬ v' = .slice none 0 0) (hn : n = U.length + 1) (hown : w'.ownsRow w.heap.size 27 5 v' n (flat U ++ y.cells)) (hg : W.grownBy w' v.ownBlock)
    (hat : v'.ownBlock = v.ownBlock ∨ v'.ownBlock = some W.heap.size) : OInv w w' v' (U ++ [y]) xb x := by
  obtain ⟨h1, h2, h3⟩ := h.grow hnil hn hown hg
  refine ⟨h1, h2, h3, h.lo, ?_⟩
  rcases hat with e | e
  · rw [e]; exact h.ne
  · rw [e]
    have := h.lt
    simp
    omega
end

theorem cut1_length (x : Row) : (cut1 x).length ≤ 2 := by unfold cut1; split <;> simp
theorem cut_length : ∀ T : List Row, (cut T).length ≤ 2 * T.length
  | [] => by simp [cut]
  | x :: T => by
    have := cut_length T
    have h1 := cut1_length x
    show (cut1 x ++ cut T).length ≤ _
    rw [List.length_append, List.length_cons]
    omega
theorem cut_snoc (T : List Row) (x : Row) : cut (T ++ [x]) = cut T ++ cut1 x := by simp [cut, List.flatMap_append]

set_option maxHeartbeats 2000000 in
theorem cut_any (A : Option Addr) (cp : Nat) (T : List Row) (w : World) (h : Lst w A T) (hs : Srt T) :
    Calls Tryd.prog 18 #[.slice A T.length cp] w fun e w' => ∃ v, e = .returned v ∧ Own w' w.heap.size 27 v (cut T) ∧ Below w.heap.size w w' := by
  have hlen := srt_length hs
  have HS := Lib.hid hs
  clear hs
  obtain ⟨i0, hi, hz0, hz1, hz2⟩ := info_parts info34
  go_enter Tryd.func18, Tryd.ntmps18
  go_wp2
  go_loopw [3, 4] (fun v s4 wr => ∃ k : Nat, k ≤ T.length ∧ s4 = .int .i64 k ∧ Own wr w.heap.size 27 v (cut (T.take k)) ∧ Below w.heap.size w wr) (fun _ s4 _ => T.length - (intOf s4).toNat)
  case atStart => exact ⟨0, Nat.zero_le _, rfl, Own.made w _ _ (Nat.le_refl _), (Below.refl _ _).alloc (Nat.le_refl _) _⟩
  case round =>
    obtain ⟨k, hk, rfl, hown, hbel⟩ := hrel
    by_cases hlt : k < T.length
    · obtain ⟨b, o, x, rfl, hb, hx, hm, c0, c1, c2, c3, c4⟩ := h.at_ hlt
      have d0 := (hbel.cell (p := ⟨b, o + k * 5, none⟩) hb).trans c0
      have d1 := (hbel.cell (p := ⟨b, o + k * 5 + 1, none⟩) hb).trans c1
      have d2 := (hbel.cell (p := ⟨b, o + k * 5 + 2, none⟩) hb).trans c2
      have d3 := (hbel.cell (p := ⟨b, o + k * 5 + 3, none⟩) hb).trans c3
      have d4 := (hbel.cell (p := ⟨b, o + k * 5 + 4, none⟩) hb).trans c4
      have hok := HS.out.1 x hm
      have HX := Lib.hid hx
      have HI := Lib.hid (OInv.start hown hbel x)
      have hU : (cut (T.take k)).length ≤ 2 * T.length := Nat.le_trans (cut_length _) (by rw [List.length_take]; omega)
      have HT : Hid (cut (T.take (k + 1)) = cut (T.take k) ++ cut1 x) := Lib.hid (by rw [take_snoc hlt, hx, cut_snoc])
      obtain ⟨o1, o2, o3⟩ := hok
      clear hx hm c0 c1 c2 c3 c4 h hown hbel
      generalize hUe : cut (T.take k) = U at HI hU HT
      clear hUe
      by_cases h3 : 3 ≤ x.hi - x.lo
      · have HC : Hid (cut1 x = [⟨x.lo, x.lo + 1, x.d0, x.d1, x.d2⟩, ⟨x.lo + 2, x.hi, x.d0, x.d1, x.d2⟩]) := Lib.hid (by unfold cut1; rw [if_pos h3])
        go_wp2_with (at_builtin; refine wpList_append_own_at _ rfl (.tmp 23) (.tmp 32) 28 rfl w.heap.size 27 i0 _ 5 20 Tryd.underlying28 hi hz0 hz1 hz2 rfl (by decide) _ _ _ rfl (HI.out.own.1.alloc _) ⟨wr.heap.size + 1, 0, none⟩ 1 1 (Row.cells ⟨x.lo, x.lo + 1, x.d0, x.d1, x.d2⟩) rfl rfl ?c1 (cells_one _) ?c3 ?c4 ?c5 ?_)
        case c1 => exact news_of (cell_new5 _ ⟨x.lo, x.lo + 1, x.d0, x.d1, x.d2⟩ _ _ (by first | rfl | simp))
        case c3 => unfold maxLen; omega
        case c4 => omega
        case c5 => exact Nat.le_trans HI.out.bel.size (by first | exact Nat.le_refl _ | simp)
        · intro v1 w1 hown1 hgrow1 hnil1 hat1
          have R := (HI.out.alloc _).growAt hnil1 rfl hown1 hgrow1 (by simpa using hat1)
          obtain ⟨e0, e1, e2, e3, e4⟩ := R.cells
          have ef := R.free 0
          have HR := Lib.hid R
          have HI2 := Lib.hid (R.set_ (j := 0) (u := .int .u32 (x.lo + 2)) (x' := ⟨x.lo + 2, x.hi, x.d0, x.d1, x.d2⟩) rfl)
          clear R hown1 hgrow1 hnil1 hat1 HI d0 d1 d2 d3 d4
          go_wp2_with (at_builtin; refine wpList_append_own _ rfl (.tmp 38) (.tmp 40) 28 rfl w.heap.size 27 i0 _ 5 20 Tryd.underlying28 hi hz0 hz1 hz2 rfl (by decide) _ _ _ rfl (HI2.out.own.1.alloc _) ⟨w1.heap.size, 0, none⟩ 1 1 (Row.cells ⟨x.lo + 2, x.hi, x.d0, x.d1, x.d2⟩) rfl rfl ?k1 (cells_one _) ?k3 ?k4 ?k5 ?_)
          case k1 => exact news_of (cell_new5 _ ⟨x.lo + 2, x.hi, x.d0, x.d1, x.d2⟩ _ _ (by first | rfl | simp))
          case k3 => unfold maxLen; simp; omega
          case k4 => simp; omega
          case k5 => exact Nat.le_trans HI2.out.bel.size (by first | exact Nat.le_refl _ | simp)
          · intro v2 w2 hown2 hgrow2 hnil2
            obtain ⟨R1, R2, -⟩ := (HI2.out.alloc _).grow hnil2 (by simp) hown2 hgrow2
            have HR1 : Hid (Own w2 w.heap.size 27 v2 (cut (T.take (k + 1)))) := Lib.hid (by
              rw [HT.out, HC.out]
              simpa using R1)
            have HR2 := Lib.hid R2
            clear R1 R2 hown2 hgrow2 hnil2 HI2 HR e0 e1 e2 e3 e4 ef
            go_wp2
            go_roundw
            case rel => exact ⟨k + 1, by omega, by go_num, HR1.out, HR2.out⟩
            case measure => simp [intOf]; omega
      · have HC : Hid (cut1 x = [x]) := Lib.hid (by unfold cut1; rw [if_neg h3])
        go_wp2_with (at_builtin; refine wpList_append_own _ rfl (.tmp 38) (.tmp 40) 28 rfl w.heap.size 27 i0 _ 5 20 Tryd.underlying28 hi hz0 hz1 hz2 rfl (by decide) _ _ _ rfl (HI.out.own.1.alloc _) ⟨wr.heap.size + 1, 0, none⟩ 1 1 (Row.cells x) rfl rfl ?m1 (cells_one _) ?m3 ?m4 ?m5 ?_)
        case m1 => first | exact fun _ _ h => h | exact news_of (cell_new5 _ x _ _ (by first | rfl | simp))
        case m3 => unfold maxLen; omega
        case m4 => omega
        case m5 => exact Nat.le_trans HI.out.bel.size (by first | exact Nat.le_refl _ | simp)
        · intro v2 w2 hown2 hgrow2 hnil2
          obtain ⟨R1, R2, -⟩ := (HI.out.alloc _).grow hnil2 rfl hown2 hgrow2
          have HR1 : Hid (Own w2 w.heap.size 27 v2 (cut (T.take (k + 1)))) := Lib.hid (by
            rw [HT.out, HC.out]
            exact R1)
          have HR2 := Lib.hid R2
          clear R1 R2 hown2 hgrow2 hnil2 HI d0 d1 d2 d3 d4
          go_wp2
          go_roundw
          case rel => exact ⟨k + 1, by omega, by go_num, HR1.out, HR2.out⟩
          case measure => simp [intOf]; omega
    · obtain rfl : k = T.length := by omega
      rw [List.take_length] at hown
      have HO := Lib.hid hown
      have HB := Lib.hid hbel
      clear hown hbel
      go_wp2
      go_ret
      exact ⟨_, rfl, HO.out, HB.out⟩
end Go.Proofs.YtfcalmjojmfooaaDoor
