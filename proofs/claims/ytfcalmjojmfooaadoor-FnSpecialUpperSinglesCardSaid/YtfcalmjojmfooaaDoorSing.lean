/-
  THE REFERENCE's FUNCTION Singles.
-/
import Derived.Test.YtfcalmjojmfooaaDoorCount
namespace Go.Proofs.YtfcalmjojmfooaaDoor
open Go.RowKit

theorem singles1_length {x : Row} : (singles1 x).length = (x.hi - x.lo + 1).toNat := by simp [singles1]
theorem singles_length : ∀ {T : List Row}, (∀ x ∈ T, x.ok) → ((singles T).length : Int) = countI T
  | [], _ => by simp [singles, countI]
  | x :: T, h => by
    have h1 := singles_length (T := T) fun y hy => h y (.tail _ hy)
    obtain ⟨o1, o2, o3⟩ := h x (.head _)
    have e : countI (x :: T) = (x.hi - x.lo + 1) + countI T := by simp [countI]
    show ((singles1 x ++ singles T).length : Int) = _
    rw [e, List.length_append, singles1_length]
    omega
theorem singles_snoc (T : List Row) (x : Row) : singles (T ++ [x]) = singles T ++ singles1 x := by simp [singles, List.flatMap_append]
theorem singles1_take {x : Row} {j : Nat} (h : j < (x.hi - x.lo + 1).toNat) : (singles1 x).take (j + 1) = (singles1 x).take j ++ [single x (x.lo + (j : Int))] := by
  rw [List.take_succ_eq_append_getElem (by rw [singles1_length]; exact h)]
  simp [singles1]

theorem wf_singles {T : List Row} (hw : Wf T) (hv : validB T = true) : Wf (singles T) := by
  intro y hy
  obtain ⟨x, hx, hy⟩ := List.mem_flatMap.1 hy
  obtain ⟨j, hj, rfl⟩ := List.mem_map.1 hy
  have hg := valid_good hv hx
  have hok := good_ok (hw x hx) hg
  have hj' := List.mem_range.1 hj
  have hh : x.has (x.lo + (j : Int)) = true := Row.has_iff.2 ⟨by omega, by omega⟩
  have b0 := single_bd hok hg hh 0 (by omega)
  have b1 := single_bd hok hg hh 1 (by omega)
  have b2 := single_bd hok hg hh 2 (by omega)
  obtain ⟨o1, o2, o3⟩ := hok
  unfold single
  exact ⟨by simp only; omega, by simp only; omega, by simp only; omega, by simp only; omega, by simp only; omega, by simp only; omega, by simp only; omega, by simp only; omega, by simp only; omega, by simp only; omega⟩

def partRow (x : Row) (n : Int) (m : Nat) : Row := ⟨n, n, if 0 < m then mapV x n 0 - n else 0, if 1 < m then mapV x n 1 - n else 0, if 2 < m then mapV x n 2 - n else 0⟩
theorem partRow_three (x : Row) (n : Int) : partRow x n 3 = single x n := by simp [partRow, single]
section
variable {w wr : World} {v : Value} {U : List Row} {xb m : Nat} {x : Row} {n : Int}
theorem OInv.part (h : OInv w wr v U xb (partRow x n m)) (hm : m < 3) : OInv w (wr.setCell ⟨xb, 2 + m, none⟩ (.int .i32 (mapV x n m - n))) v U xb (partRow x n (m + 1)) := by
  have hm3 : m = 0 ∨ m = 1 ∨ m = 2 := by omega
  rcases hm3 with rfl | rfl | rfl
  · exact h.set_ (by simp [partRow])
  · exact h.set_ (by simp [partRow])
  · exact h.set_ (by simp [partRow])
theorem OInv.partCell (h : OInv w wr v U xb (partRow x n m)) (hm : m < 3) : wr.cell? ⟨xb, 2 + m, none⟩ = some (.int .i32 0) := by
  have hm3 : m = 0 ∨ m = 1 ∨ m = 2 := by omega
  obtain ⟨-, -, c2, c3, c4⟩ := h.cells
  rcases hm3 with rfl | rfl | rfl
  · simpa [partRow] using c2
  · simpa [partRow] using c3
  · simpa [partRow] using c4
end

set_option maxHeartbeats 2000000 in
set_option maxRecDepth 100000 in
theorem singles_any (A : Option Addr) (cp : Nat) (T : List Row) (w : World) (h : Lst w A T) (hwf : Wf T) (hv : validB T = true) :
    Calls Tryd.prog 20 #[.slice A T.length cp] w fun e w' => ∃ v, e = .returned v ∧ Own w' w.heap.size 27 v (singles T) ∧ Below w.heap.size w w' := by
  have hs := valid_srt hwf hv
  have hlen := srt_length hs
  have HS := Lib.hid hs
  have HW := Lib.hid hwf
  have Hv := Lib.hid hv
  have HL := Lib.hid h
  clear hs hwf hv h
  obtain ⟨i0, iI, iz0, iz1, iz2⟩ := info_parts info34
  go_enter Tryd.func20, Tryd.ntmps20
  go_wp2
  go_loopg [3, 4] (T.length + 1) (fun gk s3 s4 wr => ∃ k : Nat, k ≤ T.length ∧ T.length - k < gk ∧ s4 = .int .i64 k ∧ Own wr w.heap.size 27 s3 (singles (T.take k)) ∧ Below w.heap.size w wr)
  case atStart => exact ⟨0, Nat.zero_le _, by omega, rfl, Own.made w _ _ (Nat.le_refl _), (Below.refl _ _).alloc (Nat.le_refl _) _⟩
  case round =>
    obtain ⟨k, hk, hgk, rfl, hown, hbel⟩ := hrel
    have HO := Lib.hid hown
    have HB := Lib.hid hbel
    clear hown hbel
    by_cases hlt : k < T.length
    · obtain ⟨g', rfl⟩ : ∃ g', gk = g' + 1 := ⟨gk - 1, by omega⟩
      obtain ⟨b, o, x, rfl, hb, hx, hm, c0, c1, -, -, -⟩ := HL.out.at_ hlt
      have d0 := (HB.out.cell (p := ⟨b, o + k * 5, none⟩) hb).trans c0
      have HX := Lib.hid hx
      have HM := Lib.hid hm
      obtain ⟨o1, o2, o3⟩ := HS.out.1 x hm
      have hUl := singles_length (T := T.take k) fun y hy => HS.out.1 y (List.mem_of_mem_take hy)
      have hCb := countI_bd (T := T.take k) fun y hy => HS.out.1 y (List.mem_of_mem_take hy)
      rw [List.length_take] at hCb
      have hU : (singles (T.take k)).length ≤ 1241245548544 := by omega
      have HT : Hid (singles (T.take (k + 1)) = singles (T.take k) ++ singles1 x) := Lib.hid (by rw [take_snoc hlt, hx, singles_snoc])
      have C1 := Lib.hid c1
      generalize singles (T.take k) = U at HO HT hU
      clear hx hm c0 c1 hUl hCb
      go_wp2
      go_loopg [3, 5] ((x.hi - x.lo + 1).toNat + 1) (fun gk s3 s5 wr => ∃ j : Nat, (j : Int) ≤ x.hi - x.lo + 1 ∧ (x.hi - x.lo + 1).toNat - j < gk ∧ s5 = .int .u32 (x.lo + (j : Int)) ∧ Own wr w.heap.size 27 s3 (U ++ (singles1 x).take j) ∧ Below w.heap.size w wr)
      case atStart => exact ⟨0, by omega, by omega, by simp, by simpa using HO.out, HB.out⟩
      case round =>
        obtain ⟨j, hj, hgj, rfl, hown, hbel⟩ := hrel
        have d1 := (hbel.cell (p := ⟨b, o + k * 5 + 1, none⟩) hb).trans C1.out
        clear HO HB d0
        by_cases hjl : (j : Int) ≤ x.hi - x.lo
        · obtain ⟨gj, rfl⟩ : ∃ gj, gk = gj + 1 := ⟨gk - 1, by omega⟩
          have hU2 : (U ++ (singles1 x).take j).length ≤ 1241246662656 := by
            rw [List.length_append, List.length_take, singles1_length]
            omega
          have HT2 : Hid (U ++ (singles1 x).take (j + 1) = U ++ (singles1 x).take j ++ [single x (x.lo + (j : Int))]) := Lib.hid (by rw [singles1_take (by omega), List.append_assoc])
          have hnl : x.lo + (j : Int) ≤ x.hi := by omega
          have hn0 : 0 ≤ x.lo + (j : Int) := by omega
          have hasn : x.has (x.lo + (j : Int)) = true := Row.has_iff.2 ⟨by omega, by omega⟩
          have hI0 := OInv.start hown hbel ⟨x.lo + (j : Int), x.lo + (j : Int), 0, 0, 0⟩
          have hgood := valid_good Hv.out HM.out
          have Hbd : Hid (∀ m : Nat, m < 3 → -1114111 ≤ mapV x (x.lo + (j : Int)) m - (x.lo + (j : Int)) ∧ mapV x (x.lo + (j : Int)) m - (x.lo + (j : Int)) ≤ 1114111) := Lib.hid fun m hm => single_bd (HS.out.1 x HM.out) hgood hasn m hm
          have HMap : Hid (∀ m : Nat, m < 3 → ∀ W, Lst W (some ⟨b, o, none⟩) T → Calls Tryd.prog 23 #[.slice (some ⟨b, o, none⟩) T.length cp, .int .i32 (x.lo + (j : Int)), .int .i64 m] W fun e w' => e = .returned (.tuple #[.int .i32 (mapV x (x.lo + (j : Int)) m), .bool true]) ∧ Below W.heap.size W w') := Lib.hid fun m hm W hW => by
            have := map_any (some ⟨b, o, none⟩) cp T (x.lo + (j : Int)) m hm W hW HW.out Hv.out (by omega) (by omega)
            unfold mapT at this
            rw [srt_of HS.out hlt (by rw [HX.out]; exact hasn)] at this
            simp only at this
            rwa [HX.out] at this
          generalize U ++ (singles1 x).take j = V at hown hI0 hU2 HT2
          generalize hnn : x.lo + (j : Int) = n at *
          have HN := Lib.hid hnn
          have HI0 : Hid (OInv w (wr.alloc (.cells #[.int .u32 n, .int .u32 n, .int .i32 0, .int .i32 0, .int .i32 0] 27)) u3 V wr.heap.size (partRow x n 0)) := Lib.hid hI0
          clear hnn hown hbel hI0 hgood hasn
          go_wp2
          generalize wr.alloc (.cells #[.int .u32 n, .int .u32 n, .int .i32 0, .int .i32 0, .int .i32 0] 27) = wa at HI0 ⊢
          generalize wr.heap.size = xb at HI0 ⊢
          go_loopg [7] 4 (fun gk s7 wr => ∃ m : Nat, m ≤ 3 ∧ 3 - m < gk ∧ s7 = .int .i64 m ∧ OInv w wr u3 V xb (partRow x n m))
          case atStart => exact ⟨0, by omega, by omega, rfl, HI0.out⟩
          case round =>
            obtain ⟨m, hm, hgm, rfl, hI⟩ := hrel
            have HI := Lib.hid hI
            clear hI HI0 d1
            by_cases hm3 : m < 3
            · obtain ⟨gm, rfl⟩ : ∃ gm, gk = gm + 1 := ⟨gk - 1, by omega⟩
              have hmz : (m : Int) < 3 := by omega
              obtain ⟨hb1, hb2⟩ := Hbd.out m hm3
              have HC := Lib.hid (HMap.out m hm3 wr (HL.out.below HI.out.bel))
              generalize hto : mapV x n m = y at hb1 hb2 HC
              have HTo := Lib.hid hto
              clear hto
              go_wp2_with fail
              refine HC.out.mono ?_
              rintro e w1 ⟨rfl, hbw⟩
              have HI1 := Lib.hid (HI.out.below hbw)
              have cP := HI1.out.partCell hm3
              have fP := HI1.out.free (2 + m)
              have HI2 : Hid (OInv w (w1.setCell ⟨xb, 2 + m, none⟩ (.int .i32 (y - n))) u3 V xb (partRow x n (m + 1))) := Lib.hid (by
                have := HI1.out.part hm3
                rwa [HTo.out] at this)
              clear hbw HC HI
              go_wp2
              go_roundg gm
              case measure => omega
              case rel => exact ⟨m + 1, by omega, by omega, by go_num, HI2.out⟩
            · obtain rfl : m = 3 := by omega
              have hI3 := HI.out
              rw [partRow_three] at hI3
              obtain ⟨e0, e1, e2, e3, e4⟩ := hI3.cells
              have HI3 := Lib.hid hI3
              have hmz : ¬ ((3 : Nat) : Int) < 3 := by omega
              clear hI3 HI
              generalize hsg : single x n = y at e0 e1 e2 e3 e4 HI3 HT2
              clear hsg
              go_wp2_with (at_builtin; refine wpList_append_own _ rfl (.tmp 53) (.tmp 55) 28 rfl w.heap.size 27 i0 _ 5 20 Tryd.underlying28 iI iz0 iz1 iz2 rfl (by decide) _ _ _ rfl (HI3.out.own.1.alloc _) ⟨wr.heap.size, 0, none⟩ 1 1 y.cells rfl rfl ?k1 (cells_one _) ?k3 ?k4 ?k5 ?_)
              case k1 => first | exact fun _ _ h => h | exact news_of (cell_new5 _ y _ _ (by first | rfl | simp))
              case k3 => unfold maxLen; omega
              case k4 => omega
              case k5 => exact Nat.le_trans HI3.out.bel.size (by first | exact Nat.le_refl _ | simp)
              · intro v2 w2 hown2 hgrow2 hnil2
                obtain ⟨R1, R2, -⟩ := (HI3.out.alloc _).grow hnil2 rfl hown2 hgrow2
                have HR1 : Hid (Own w2 w.heap.size 27 v2 (U ++ (singles1 x).take (j + 1))) := Lib.hid (by rw [HT2.out]; exact R1)
                have HR2 := Lib.hid R2
                clear R1 R2 hown2 hgrow2 hnil2 HI3 e0 e1 e2 e3 e4
                go_wp2
                go_roundg gj
                case measure => omega
                case rel => exact ⟨j + 1, by omega, by omega, by rw [← HN.out]; go_num, HR1.out, HR2.out⟩
        · have hjz : j = (x.hi - x.lo + 1).toNat := by omega
          have HR : Hid (Own wr w.heap.size 27 u3 (singles (T.take (k + 1)))) := Lib.hid (by
            rw [HT.out]
            rwa [List.take_of_length_le (by rw [singles1_length]; omega)] at hown)
          have HRB := Lib.hid hbel
          have hjf : ¬ (x.lo + (j : Int) ≤ x.hi) := by omega
          clear hown hbel hjz
          go_wp2
          go_roundg g'
          case measure => omega
          case rel => exact ⟨k + 1, by omega, by omega, by go_num, HR.out, HRB.out⟩
    · obtain rfl : k = T.length := by omega
      rw [List.take_length] at HO
      go_wp2
      go_ret
      exact ⟨_, rfl, HO.out, HB.out⟩
end Go.Proofs.YtfcalmjojmfooaaDoor
