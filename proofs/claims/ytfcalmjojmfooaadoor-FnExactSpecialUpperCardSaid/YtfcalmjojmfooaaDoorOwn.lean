/-
  WORDS FOR A SLICE OF CASE RANGES THAT THE CALL ITSELF MAKES BY append.
-/
import Derived.Test.YtfcalmjojmfooaaDoorSped
namespace Go.Proofs.YtfcalmjojmfooaaDoor
open Go.RowKit

def Row.cells (x : Row) : List Value := [.int .u32 x.lo, .int .u32 x.hi, .int .i32 x.d0, .int .i32 x.d1, .int .i32 x.d2]
def flat (T : List Row) : List Value := T.flatMap Row.cells
theorem flat_snoc (T : List Row) (x : Row) : flat (T ++ [x]) = flat T ++ x.cells := by simp [flat, List.flatMap_append]
theorem flat_length : ∀ T : List Row, (flat T).length = T.length * 5
  | [] => rfl
  | x :: T => by
    show (x.cells ++ flat T).length = _
    rw [List.length_append, flat_length T]
    simp [Row.cells]
    omega
theorem flat_get : ∀ (T : List Row) (i : Nat) (x : Row), T[i]? = some x → ∀ k, k < 5 → (flat T)[i * 5 + k]? = x.cells[k]?
  | [], i, x, h, _, _ => by simp at h
  | y :: t, 0, x, h, k, hk => by
    simp at h
    subst h
    show (y.cells ++ flat t)[_]? = _
    rw [List.getElem?_append_left (by simp [Row.cells]; omega)]
    simp
  | y :: t, i + 1, x, h, k, hk => by
    simp at h
    show (y.cells ++ flat t)[_]? = _
    rw [List.getElem?_append_right (by simp [Row.cells]; omega)]
    have : (i + 1) * 5 + k - y.cells.length = i * 5 + k := by simp [Row.cells]; omega
    rw [this]
    exact flat_get t i x h k hk
theorem cells_one (x : Row) : ∀ u ∈ x.cells, u.oneCell' = true := by
  intro u hu
  simp only [Row.cells, List.mem_cons, List.not_mem_nil, or_false] at hu
  rcases hu with rfl | rfl | rfl | rfl | rfl <;> rfl

/-- The slice value v, in blocks from B on, of element type e, owns the rows T; it is not nil. -/
def Own (w : World) (B e : Nat) (v : Value) (T : List Row) : Prop := w.ownsRow B e 5 v T.length (flat T) ∧ v ≠ .slice none 0 0
theorem Own.form {w : World} {B e : Nat} {v : Value} {T : List Row} (h : Own w B e v T) : ∃ b cp, v = .slice (some ⟨b, 0, none⟩) T.length cp ∧ B ≤ b ∧ b < w.heap.size ∧ Cells w b 0 T := by
  obtain ⟨h, hn⟩ := h
  rcases h.2 with ⟨hv, _⟩ | ⟨g, cap, cur, hv, hb, hg, _⟩
  · exact absurd hv hn
  · refine ⟨g, cap, hv, hb, (Array.getElem?_eq_some_iff.1 hg).1, fun i hi => ?_⟩
    have hx : T[i]? = some (T.getD i z5) := by rw [getD_eq hi]; exact List.getElem?_eq_getElem hi
    have k : ∀ j, j < 5 → w.cell? ⟨g, 0 + i * 5 + j, none⟩ = (T.getD i z5).cells[j]? := fun j hj => by
      have hf := flat_get T i _ hx j hj
      have hs : ∃ u, (T.getD i z5).cells[j]? = some u := ⟨(T.getD i z5).cells[j]'(by simp [Row.cells]; omega), List.getElem?_eq_getElem _⟩
      obtain ⟨u, hu⟩ := hs
      rw [hu] at hf ⊢
      have := h.cells (g := g) (by rw [hv]; rfl) (i * 5 + j) u hf
      have hadd : (⟨g, 0, none⟩ : Addr).add (i * 5 + j) = ⟨g, 0 + i * 5 + j, none⟩ := by unfold Addr.add; split <;> simp_all <;> omega
      rw [← hadd]
      exact this
    exact ⟨k 0 (by omega), k 1 (by omega), k 2 (by omega), k 3 (by omega), k 4 (by omega)⟩
theorem Own.made (w : World) (B e : Nat) (hB : B ≤ w.heap.size) : Own (w.alloc (.cells #[] e)) B e (.slice (some ⟨w.heap.size, 0, none⟩) 0 0) [] :=
  ⟨World.ownsRow_made w #[] 0 hB (by simp [maxLen]) (by simp), by simp⟩
theorem Own.keep {w w' : World} {B e : Nat} {v : Value} {T : List Row} (h : Own w B e v T) {row : Option Nat} (hg : w.grownBy w' row) (hne : v.ownBlock ≠ row) : Own w' B e v T := ⟨h.1.kept hg (.inr hne), h.2⟩
theorem Own.alloc {w : World} {B e : Nat} {v : Value} {T : List Row} (h : Own w B e v T) (o : Obj) : Own (w.alloc o) B e v T := ⟨h.1.alloc o, h.2⟩
theorem Own.drewN {w : World} {B e : Nat} {v : Value} {T : List Row} (h : Own w B e v T) (n : Nat) : Own (w.drewN n) B e v T := h
theorem Own.lst {w : World} {B e : Nat} {v : Value} {T : List Row} (h : Own w B e v T) : ∃ A cp, v = .slice A T.length cp ∧ Lst w A T := by
  obtain ⟨b, cp, hv, _, hlt, hc⟩ := h.form
  exact ⟨_, cp, hv, fun _ => ⟨b, 0, rfl, hlt, hc⟩⟩
theorem Own.grow {w : World} {B e n : Nat} {v : Value} {T : List Row} {x : Row} (hnil : ¬ v = .slice none 0 0) (hn : n = T.length + 1) (h : w.ownsRow B e 5 v n (flat T ++ x.cells)) : Own w B e v (T ++ [x]) := by
  refine ⟨?_, hnil⟩
  subst hn
  rw [flat_snoc, List.length_append]
  exact h
theorem Own.below {w w' : World} {B e : Nat} {v : Value} {T : List Row} (h : Own w B e v T) (hb : Below w.heap.size w w') : Own w' B e v T := by
  refine ⟨⟨h.1.1, ?_⟩, h.2⟩
  rcases h.1.2 with hn | ⟨g, cap, cur, hv, hB, hg, r⟩
  · exact .inl hn
  · exact .inr ⟨g, cap, cur, hv, hB, by rw [hb.block g (Array.getElem?_eq_some_iff.1 hg).1]; exact hg, r⟩
/-- The cells of one row in a block of its own. -/
theorem news_of {W : World} {b : Nat} {x : Row} (h : ∀ j, j < 5 → W.cell? ⟨b, j, none⟩ = x.cells[j]?) : ∀ j u, x.cells[j]? = some u → W.cell? ((⟨b, 0, none⟩ : Addr).add j) = some u := by
  intro j u hu
  have hj : j < 5 := by
    have := (List.getElem?_eq_some_iff.1 hu).1
    simpa [Row.cells] using this
  have hadd : (⟨b, 0, none⟩ : Addr).add j = ⟨b, j, none⟩ := by unfold Addr.add; split <;> simp_all
  rw [hadd, h j hj, hu]
theorem cell_new5 (W : World) (x : Row) (e : TypeId) (n : Nat) (hn : n = W.heap.size) : ∀ j, j < 5 → (W.alloc (.cells #[.int .u32 x.lo, .int .u32 x.hi, .int .i32 x.d0, .int .i32 x.d1, .int .i32 x.d2] e)).cell? ⟨n, j, none⟩ = x.cells[j]? := by
  intro j _
  subst hn
  rw [World.cell?_alloc_new]
  rw [← Array.getElem?_toList]
  rfl
theorem take_snoc {T : List Row} {k : Nat} (h : k < T.length) : T.take (k + 1) = T.take k ++ [T.getD k z5] := by
  rw [List.take_succ_eq_append_getElem h, getD_eq h]
theorem info55 : (Tryd.prog.info? 55).map (fun i => (i.zero, i.size, i.bytes)) = some (some (.agg #[.int .u32 0, .int .u32 0, .int .i32 0, .int .i32 0, .int .i32 0]), 5, 20) := by kernel_rfl
theorem info34 : (Tryd.prog.info? 27).map (fun i => (i.zero, i.size, i.bytes)) = some (some (.agg #[.int .u32 0, .int .u32 0, .int .i32 0, .int .i32 0, .int .i32 0]), 5, 20) := by kernel_rfl
end Go.Proofs.YtfcalmjojmfooaaDoor
