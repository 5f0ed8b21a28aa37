/-
  THE REFERENCE's FUNCTION Without.
-/
import Derived.Test.YtfcalmjojmfooaaDoorCut
import Derived.Test.YtfcalmjojmfooaaDoorValid
namespace Go.Proofs.YtfcalmjojmfooaaDoor
open Go.RowKit

theorem Cells.take {w : World} {b o : Nat} {T : List Row} (h : Cells w b o T) (k : Nat) : Cells w b o (T.take k) := fun i hi => by
  rw [List.length_take] at hi
  have e : (T.take k).getD i z5 = T.getD i z5 := by
    rw [List.getD_eq_getElem?_getD, List.getD_eq_getElem?_getD, List.getElem?_take, if_pos (by omega)]
  rw [e]
  exact h i (by omega)
theorem Cells.drop {w : World} {b o : Nat} {T : List Row} (h : Cells w b o T) (k : Nat) : Cells w b (o + k * 5) (T.drop k) := fun i hi => by
  rw [List.length_drop] at hi
  have e : (T.drop k).getD i z5 = T.getD (k + i) z5 := by
    rw [List.getD_eq_getElem?_getD, List.getD_eq_getElem?_getD, List.getElem?_drop]
  rw [e]
  have e2 : o + k * 5 + i * 5 = o + (k + i) * 5 := by omega
  rw [e2]
  exact h (k + i) (by omega)
theorem Cells.flat {w : World} {b o : Nat} {T : List Row} (h : Cells w b o T) : ∀ j u, (flat T)[j]? = some u → w.cell? ((⟨b, o, none⟩ : Addr).add j) = some u := by
  intro j u hu
  have hj : j < T.length * 5 := by
    have := (List.getElem?_eq_some_iff.1 hu).1
    rwa [flat_length] at this
  have hi : j / 5 < T.length := by omega
  have hx : T[j / 5]? = some (T.getD (j / 5) z5) := by rw [getD_eq hi]; exact List.getElem?_eq_getElem hi
  have hf := flat_get T (j / 5) _ hx (j % 5) (by omega)
  have e : j / 5 * 5 + j % 5 = j := by omega
  rw [e, hu] at hf
  have hadd : (⟨b, o, none⟩ : Addr).add j = ⟨b, o + j / 5 * 5 + j % 5, none⟩ := by
    have : o + j = o + j / 5 * 5 + j % 5 := by omega
    unfold Addr.add
    split
    · simp_all
    · simp [this]
  rw [hadd]
  obtain ⟨c0, c1, c2, c3, c4⟩ := h (j / 5) hi
  have hm : j % 5 = 0 ∨ j % 5 = 1 ∨ j % 5 = 2 ∨ j % 5 = 3 ∨ j % 5 = 4 := by omega
  rcases hm with hm | hm | hm | hm | hm <;> rw [hm] at hf ⊢ <;> simp only [Row.cells, List.getElem?_cons_zero, List.getElem?_cons_succ, Option.some.injEq] at hf <;> rw [hf]
  · exact c0
  · exact c1
  · exact c2
  · exact c3
  · exact c4
theorem flat_one (T : List Row) : ∀ u ∈ flat T, u.oneCell' = true := fun u hu => by
  obtain ⟨x, _, hx⟩ := List.mem_flatMap.1 hu
  exact cells_one x u hx

theorem block_add (a : Addr) (n : Nat) : (a.add n).block = a.block := by unfold Addr.add; split <;> rfl
section
variable {P : Program} (w : World)
/-- append onto a row of the call's own, as an operation of a region that draws its order. -/
theorem step_append_own {ops : Array Oper} {o : Oper} {a : Act} {K : Act → World → Prop} {Q : Exit → Act → World → Prop} {E : Prop} (hgd : o.guard = none) (s x : Operand) (t : TypeId)
    (ho : o.op = .call { callee := .builtin .append, args := #[s, x], argTypes := #[t, t] })
    (base : Nat) (e : TypeId) (i : TypeInfo) (z : Value) (size bytes : Nat) (ht : P.underlying t = some (.slice e)) (hi : P.info? e = some i) (hz : i.zero = some z)
    (hsize : i.size = size) (hby : i.bytes = bytes) (hzs : z.cells.size = size) (hsz : 0 < size)
    (v : Value) (n : Nat) (xs : List Value) (hs : a.eval s = v) (hown : w.ownsRow base e size v n xs)
    (ad : Addr) (m c : Nat) (news : List Value) (hx : a.eval x = .slice (some ad) m c) (hl : news.length = m * size) (hnews : ∀ j u, news[j]? = some u → w.cell? (ad.add j) = some u) (h1 : ∀ u ∈ news, u.oneCell' = true)
    (h63 : n + m ≤ maxLen) (hbytes : (n + m) * bytes ≤ 140737488355328) (hbase : base ≤ w.heap.size)
    (h : ∀ v' w', w'.ownsRow base e size v' (n + m) (xs ++ news) → w.grownBy w' v.ownBlock → (v' = .slice none 0 0 ↔ v = .slice none 0 0 ∧ m = 0) → K (a.put o.dst v') w') :
    if Region.wanted o (yielded ops a.tmps) = true then Oper.wp P o a w K Q else E := by
  have hw : Region.wanted o (yielded ops a.tmps) = true := by simp [Region.wanted, hgd]
  rw [if_pos hw]
  exact wp_append_own w s x t ho base e i z size bytes ht hi hz hsize hby hzs hsz v n xs hs hown ad m c news hx hl hnews h1 h63 hbytes hbase h
end

set_option maxHeartbeats 2000000 in
theorem without_any (b o cp k : Nat) (T : List Row) (w : World) (h : Lst w (some ⟨b, o, none⟩) T) (hk : k < T.length) (hc1 : T.length ≤ cp) (hc2 : cp ≤ 9223372036854775807) (hlen : T.length ≤ 2000000) :
    Calls Tryd.prog 22 #[.slice (some ⟨b, o, none⟩) T.length cp, .int .i64 k] w fun e w' => ∃ v, e = .returned v ∧ Own w' w.heap.size 27 v (T.eraseIdx k) ∧ Below w.heap.size w w' := by
  obtain ⟨b', o', e, hb, hc⟩ := h (by omega)
  obtain ⟨rfl, rfl⟩ : b' = b ∧ o' = o := by simpa [eq_comm] using e
  clear e h
  obtain ⟨i0, hi, hz0, hz1, hz2⟩ := info_parts info34
  have e1 : IntKind.i64.wrap ((k : Int) + 1) = (k : Int) + 1 := IntWalk.i64_in _ (by omega)
  have e2 : ((k : Int) + 1).toNat = k + 1 := by omega
  have hkc : k ≤ cp := by omega
  have hkt : k + 1 ≤ T.length := by omega
  have hki : (0 : Int) ≤ (k : Int) + 1 := by omega
  have hkj : (k : Int) + 1 ≤ (T.length : Int) := by omega
  obtain ⟨ad, had, HAd⟩ : ∃ ad, (if cp = k + 1 then some (⟨b', o', none⟩ : Addr) else some ⟨b', o' + (k + 1) * 5, none⟩) = some ad ∧ Hid (ad.block < w.heap.size ∧ ∀ j u, (flat (T.drop (k + 1)))[j]? = some u → w.cell? (ad.add j) = some u) := by
    by_cases hcp : cp = k + 1
    · refine ⟨_, if_pos hcp, hb, fun j u hu => ?_⟩
      rw [List.drop_eq_nil_of_le (by omega)] at hu
      simp [flat] at hu
    · exact ⟨_, if_neg hcp, hb, (hc.drop (k + 1)).flat⟩
  have HTk := Lib.hid (hc.take k).flat
  have HL1 : Hid ((T.take k).length = k) := Lib.hid (by rw [List.length_take]; omega)
  have HL2 : Hid ((T.drop (k + 1)).length = T.length - (k + 1)) := Lib.hid (by rw [List.length_drop])
  clear hc
  go_enter Tryd.func22, Tryd.ntmps22
  go_wp2
  refine wp_region_any (by kernel_rfl) ?_
  try (change wpAny _ _ _ _ _ _ _ (World.drew _))
  refine wpAny_take (i := 1) (v := ?_) rfl (by kernel_rfl) (by kernel_rfl) (by kernel_rfl) (fun _ _ _ h => h) (Or.inl ⟨by kernel_rfl, ?_⟩) ?_
  rotate_left
  · intro _; go_simp; try (with_reducible rfl)
  refine wpAny_take (i := 2) (v := ?_) rfl (by kernel_rfl) (by kernel_rfl) (by kernel_rfl) (fun _ _ _ h => h) (Or.inl ⟨by kernel_rfl, ?_⟩) ?_
  rotate_left
  · intro _; go_simp; try (with_reducible rfl)
  refine wpAny_take (i := 3) (v := ?_) rfl (by kernel_rfl) (by kernel_rfl) (by kernel_rfl) (fun _ _ _ h => h) (Or.inl ⟨by kernel_rfl, ?_⟩) ?_
  rotate_left
  · intro _; go_simp; try (with_reducible rfl)
  refine wpAny_take (i := 5) (v := ?_) rfl (by kernel_rfl) (by kernel_rfl) (by kernel_rfl) (fun _ _ _ h => h) (Or.inl ⟨by kernel_rfl, ?_⟩) ?_
  rotate_left
  · intro _; go_simp; try (with_reducible rfl)
  refine wpAny_take (i := 6) (v := ?_) rfl (by kernel_rfl) (by kernel_rfl) (by kernel_rfl) (fun _ _ _ h => h) (Or.inl ⟨by kernel_rfl, ?_⟩) ?_
  rotate_left
  · intro _; go_simp; try (with_reducible rfl)
  refine wpAny_take (i := 7) (v := ?_) rfl (by kernel_rfl) (by kernel_rfl) (by kernel_rfl) (fun _ _ _ h => h) (Or.inl ⟨by kernel_rfl, ?_⟩) ?_
  rotate_left
  · intro _; go_simp; try (with_reducible rfl)
  refine wpAny_take (i := 8) (v := ?_) rfl (by kernel_rfl) (by kernel_rfl) (by kernel_rfl) (fun _ _ _ h => h) (Or.inl ⟨by kernel_rfl, ?_⟩) ?_
  rotate_left
  · intro _; go_simp; try (with_reducible rfl)
  refine wpAny_ready (rs := [0]) (by kernel_rfl) (by simp) ?_
  refine AllReady.cons rfl (fun K hK => ?_) AllReady.nil
  go_simp
  refine hK _ _ ?_
  clear hK K
  refine wpAny_ready (rs := [4]) (by kernel_rfl) (by simp) ?_
  refine AllReady.cons rfl (fun K hK => ?_) AllReady.nil
  refine step_append_own _ rfl (.tmp 5) (.tmp 8) 28 rfl w.heap.size 27 i0 _ 5 20 Tryd.underlying28 hi hz0 hz1 hz2 rfl (by decide) (.slice (some ⟨w.heap.size, 0, none⟩) 0 0) 0 [] rfl ?o1 ⟨b', o', none⟩ k cp (flat (T.take k)) rfl ?l1 ?n1 (flat_one _) ?m1 ?b1 ?s1 ?_
  case o1 => exact (Own.made w w.heap.size _ (Nat.le_refl _)).1
  case l1 => rw [flat_length, HL1.out]
  case n1 => exact fun j u hu => (World.cell?_alloc_lt w _ _ (by rw [block_add]; exact hb)).trans (HTk.out j u hu)
  case m1 => unfold maxLen; omega
  case b1 => omega
  case s1 => simp
  intro v1 w1 hown1 hgrow1 hnil1
  have hB0 : Below w.heap.size w (w.alloc (.cells #[] 27)).drew := ((Below.refl w.heap.size w).alloc (Nat.le_refl _) _).drew
  have HB1 : Hid (Below w.heap.size w w1) := Lib.hid (hB0.grown hgrow1 (by simp) (fun g hg => by simp [Value.ownBlock] at hg; omega))
  have HO1 : Hid (w1.ownsRow w.heap.size 27 5 v1 k (flat (T.take k))) := Lib.hid (by simpa using hown1)
  have HN1 : Hid (¬ v1 = .slice none 0 0) := Lib.hid (by simpa using hnil1)
  clear hown1 hgrow1 hnil1 hB0
  refine hK _ _ ?_
  clear hK K
  refine wpAny_ready (rs := [9]) (by kernel_rfl) (by simp) ?_
  refine AllReady.cons rfl (fun K hK => ?_) AllReady.nil
  refine step_append_own _ rfl (.tmp 9) (.tmp 13) 28 rfl w.heap.size 27 i0 _ 5 20 Tryd.underlying28 hi hz0 hz1 hz2 rfl (by decide) v1 k (flat (T.take k)) rfl HO1.out ad (T.length - (k + 1)) (cp - (k + 1)) (flat (T.drop (k + 1))) rfl ?l2 ?n2 (flat_one _) ?m2 ?b2 ?s2 ?_
  case l2 => rw [flat_length, HL2.out]
  case n2 => exact fun j u hu => (HB1.out.cell (by rw [block_add]; exact HAd.out.1)).trans (HAd.out.2 j u hu)
  case m2 => unfold maxLen; omega
  case b2 => omega
  case s2 => exact HB1.out.size
  intro v2 w2 hown2 hgrow2 hnil2
  have HB2 : Hid (Below w.heap.size w w2) := Lib.hid (HB1.out.grown hgrow2 HB1.out.size (fun g hg => (HO1.out.lt g hg).1))
  have HO2 : Hid (Own w2 w.heap.size 27 v2 (T.eraseIdx k)) := Lib.hid (by
    have e : T.eraseIdx k = T.take k ++ T.drop (k + 1) := List.eraseIdx_eq_take_drop_succ ..
    refine ⟨?_, fun hc => HN1.out (hnil2.1 hc).1⟩
    have hl : (T.eraseIdx k).length = k + (T.length - (k + 1)) := by rw [e, List.length_append, HL1.out, HL2.out]
    rw [hl, e]
    have hf : flat (T.take k ++ T.drop (k + 1)) = flat (T.take k) ++ flat (T.drop (k + 1)) := by simp [flat, List.flatMap_append]
    rw [hf]
    exact hown2)
  clear hown2 hgrow2 hnil2
  refine hK _ _ ?_
  clear hK K
  refine wpAny_take (i := 10) (v := ?_) rfl (by kernel_rfl) (by kernel_rfl) (by kernel_rfl) (fun _ _ _ h => h) (Or.inl ⟨by kernel_rfl, ?_⟩) ?_
  rotate_left
  · intro _; go_simp; try (with_reducible rfl)
  refine wpAny_done (by kernel_rfl) ?_ _
  go_wp2
  go_ret
  exact ⟨v2, rfl, HO2.out, HB2.out⟩
end Go.Proofs.YtfcalmjojmfooaaDoor
