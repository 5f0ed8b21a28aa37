/-
  SLICES OF ROWS AS SOURCES OF append; append in a region that draws its order.
-/
import Derived.Test.YtfcalmjojmfooaaDoorOwn
namespace Go.Proofs.YtfcalmjojmfooaaDoor
open Go.RowKit

theorem Cells.take {w : World} {b o : Nat} {T : List Row} (h : Cells w b o T) (k : Nat) : Cells w b o (T.take k) := fun i hi => by
  rw [List.length_take] at hi
  have e : (T.take k).getD i z5 = T.getD i z5 := by
    rw [List.getD_eq_getElem?_getD, List.getD_eq_getElem?_getD, List.getElem?_take, if_pos (by omega)]
  rw [e]
  exact h i (by omega)
theorem Cells.drop {w : World} {b o : Nat} {T : List Row} (h : Cells w b o T) (k : Nat) : Cells w b (o + k * 5) (T.drop k) := fun i hi => by
  rw [List.length_drop] at hi
  have e : (T.drop k).getD i z5 = T.getD (k + i) z5 := by
    rw [List.getD_eq_getElem?_getD, List.getD_eq_getElem?_getD, List.getElem?_drop]
  rw [e]
  have e2 : o + k * 5 + i * 5 = o + (k + i) * 5 := by omega
  rw [e2]
  exact h (k + i) (by omega)
theorem Cells.flat {w : World} {b o : Nat} {T : List Row} (h : Cells w b o T) : ∀ j u, (flat T)[j]? = some u → w.cell? ((⟨b, o, none⟩ : Addr).add j) = some u := by
  intro j u hu
  have hj : j < T.length * 5 := by
    have := (List.getElem?_eq_some_iff.1 hu).1
    rwa [flat_length] at this
  have hi : j / 5 < T.length := by omega
  have hx : T[j / 5]? = some (T.getD (j / 5) z5) := by rw [getD_eq hi]; exact List.getElem?_eq_getElem hi
  have hf := flat_get T (j / 5) _ hx (j % 5) (by omega)
  have e : j / 5 * 5 + j % 5 = j := by omega
  rw [e, hu] at hf
  have hadd : (⟨b, o, none⟩ : Addr).add j = ⟨b, o + j / 5 * 5 + j % 5, none⟩ := by
    have : o + j = o + j / 5 * 5 + j % 5 := by omega
    unfold Addr.add
    split
    · simp_all
    · simp [this]
  rw [hadd]
  obtain ⟨c0, c1, c2, c3, c4⟩ := h (j / 5) hi
  have hm : j % 5 = 0 ∨ j % 5 = 1 ∨ j % 5 = 2 ∨ j % 5 = 3 ∨ j % 5 = 4 := by omega
  rcases hm with hm | hm | hm | hm | hm <;> rw [hm] at hf ⊢ <;> simp only [Row.cells, List.getElem?_cons_zero, List.getElem?_cons_succ, Option.some.injEq] at hf <;> rw [hf]
  · exact c0
  · exact c1
  · exact c2
  · exact c3
  · exact c4
theorem flat_one (T : List Row) : ∀ u ∈ flat T, u.oneCell' = true := fun u hu => by
  obtain ⟨x, _, hx⟩ := List.mem_flatMap.1 hu
  exact cells_one x u hx

theorem block_add (a : Addr) (n : Nat) : (a.add n).block = a.block := by unfold Addr.add; split <;> rfl
section
variable {P : Program} (w : World)
/-- append onto a row of the call's own, as an operation of a region that draws its order. -/
theorem step_append_own {ops : Array Oper} {o : Oper} {a : Act} {K : Act → World → Prop} {Q : Exit → Act → World → Prop} {E : Prop} (hgd : o.guard = none) (s x : Operand) (t : TypeId)
    (ho : o.op = .call { callee := .builtin .append, args := #[s, x], argTypes := #[t, t] })
    (base : Nat) (e : TypeId) (i : TypeInfo) (z : Value) (size bytes : Nat) (ht : P.underlying t = some (.slice e)) (hi : P.info? e = some i) (hz : i.zero = some z)
    (hsize : i.size = size) (hby : i.bytes = bytes) (hzs : z.cells.size = size) (hsz : 0 < size)
    (v : Value) (n : Nat) (xs : List Value) (hs : a.eval s = v) (hown : w.ownsRow base e size v n xs)
    (ad : Addr) (m c : Nat) (news : List Value) (hx : a.eval x = .slice (some ad) m c) (hl : news.length = m * size) (hnews : ∀ j u, news[j]? = some u → w.cell? (ad.add j) = some u) (h1 : ∀ u ∈ news, u.oneCell' = true)
    (h63 : n + m ≤ maxLen) (hbytes : (n + m) * bytes ≤ 140737488355328) (hbase : base ≤ w.heap.size)
    (h : ∀ v' w', w'.ownsRow base e size v' (n + m) (xs ++ news) → w.grownBy w' v.ownBlock → (v' = .slice none 0 0 ↔ v = .slice none 0 0 ∧ m = 0) → K (a.put o.dst v') w') :
    if Region.wanted o (yielded ops a.tmps) = true then Oper.wp P o a w K Q else E := by
  have hw : Region.wanted o (yielded ops a.tmps) = true := by simp [Region.wanted, hgd]
  rw [if_pos hw]
  exact wp_append_own w s x t ho base e i z size bytes ht hi hz hsize hby hzs hsz v n xs hs hown ad m c news hx hl hnews h1 h63 hbytes hbase h
end
end Go.Proofs.YtfcalmjojmfooaaDoor
