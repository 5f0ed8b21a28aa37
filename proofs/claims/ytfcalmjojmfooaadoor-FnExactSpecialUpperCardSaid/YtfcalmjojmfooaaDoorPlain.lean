/-
  PLAIN LAWS ON LISTS OF CASE RANGES: no program stands in this text. What is proved: a binary search over a sorted list finds the row that has r; cutting, single rows, dropping a row, and rows of zero deltas keep or change the mapping as the statements say.
-/
import Derived.RowKit
namespace Go.Proofs.YtfcalmjojmfooaaDoor
open Go.RowKit

structure Row where
  lo : Int
  hi : Int
  d0 : Int
  d1 : Int
  d2 : Int

def z5 : Row := ⟨0, 0, 0, 0, 0⟩
def Row.delta (x : Row) (c : Nat) : Int := if c = 0 then x.d0 else if c = 1 then x.d1 else x.d2
/-- The numbers fit their Go types. -/
def Row.wf (x : Row) : Prop := 0 ≤ x.lo ∧ x.lo ≤ 4294967295 ∧ 0 ≤ x.hi ∧ x.hi ≤ 4294967295 ∧ -2147483648 ≤ x.d0 ∧ x.d0 ≤ 2147483647 ∧ -2147483648 ≤ x.d1 ∧ x.d1 ≤ 2147483647 ∧ -2147483648 ≤ x.d2 ∧ x.d2 ≤ 2147483647
def Wf (T : List Row) : Prop := ∀ x ∈ T, x.wf
def Row.has (x : Row) (r : Int) : Bool := decide (x.lo ≤ r) && decide (r ≤ x.hi)
theorem Row.has_iff {x : Row} {r : Int} : x.has r = true ↔ x.lo ≤ r ∧ r ≤ x.hi := by simp [Row.has]
def Row.ok (x : Row) : Prop := 0 ≤ x.lo ∧ x.lo ≤ x.hi ∧ x.hi ≤ 1114111
/-- In sorted order, without overlap, of code points. -/
def Srt (T : List Row) : Prop := (∀ x ∈ T, x.ok) ∧ T.Pairwise fun x y => x.hi < y.lo

def byT (x : Row) : Bool := (x.d0 == 1114112) && (x.d1 == 1114112) && (x.d2 == 1114112)
def dOk (x : Row) (d : Int) : Bool := decide (-1114111 ≤ d) && decide (d ≤ 1114111) && decide (0 ≤ x.lo + d) && decide (x.hi + d ≤ 1114111)
def goodB (x : Row) : Bool := decide (x.lo ≤ x.hi) && decide (x.hi ≤ 1114111) && (if byT x = true then (x.hi - x.lo) % 2 == 1 else dOk x x.d0 && dOk x x.d1 && dOk x x.d2)
def stepB (T : List Row) (i : Nat) : Bool := goodB (T.getD i z5) && (decide (i = 0) || decide ((T.getD (i - 1) z5).hi < (T.getD i z5).lo))
def validB (T : List Row) : Bool := (List.range T.length).all (stepB T)

theorem getD_mem {T : List Row} {i : Nat} (h : i < T.length) : T.getD i z5 ∈ T := by
  rw [List.getD_eq_getElem?_getD, List.getElem?_eq_getElem h]; exact List.getElem_mem h
theorem getD_eq {T : List Row} {i : Nat} (h : i < T.length) : T.getD i z5 = T[i] := by
  rw [List.getD_eq_getElem?_getD, List.getElem?_eq_getElem h]; rfl

theorem valid_step {T : List Row} (h : validB T = true) (i : Nat) (hi : i < T.length) : stepB T i = true :=
  List.all_eq_true.1 h i (List.mem_range.2 hi)
theorem valid_good {T : List Row} (h : validB T = true) {x : Row} (hx : x ∈ T) : goodB x = true := by
  obtain ⟨i, hi, rfl⟩ := List.getElem_of_mem hx
  have := valid_step h i hi
  rw [← getD_eq hi]
  simp only [stepB, Bool.and_eq_true] at this
  exact this.1
theorem invalid_at {T : List Row} (i : Nat) (hi : i < T.length) (h : stepB T i = false) : validB T = false := by
  cases hv : validB T with
  | false => rfl
  | true => rw [valid_step hv i hi] at h; cases h
theorem valid_all {T : List Row} (h : ∀ i, i < T.length → stepB T i = true) : validB T = true :=
  List.all_eq_true.2 fun i hi => h i (List.mem_range.1 hi)

theorem good_ok {x : Row} (w : x.wf) (h : goodB x = true) : x.ok := by
  simp only [goodB, Bool.and_eq_true, decide_eq_true_eq] at h
  exact ⟨w.1, h.1.1, h.1.2⟩

theorem valid_srt {T : List Row} (hw : Wf T) (h : validB T = true) : Srt T := by
  have hok : ∀ x ∈ T, x.ok := fun x hx => good_ok (hw x hx) (valid_good h hx)
  refine ⟨hok, ?_⟩
  have hstep : ∀ i, i + 1 < T.length → (T.getD i z5).hi < (T.getD (i + 1) z5).lo := fun i hi => by
    have := valid_step h (i + 1) hi
    simp only [stepB, Bool.and_eq_true, Bool.or_eq_true, decide_eq_true_eq] at this
    rcases this.2 with h0 | h0
    · omega
    · exact h0
  have hall : ∀ d i, i + d + 1 < T.length → (T.getD i z5).hi < (T.getD (i + d + 1) z5).lo := by
    intro d
    induction d with
    | zero => intro i hi; exact hstep i hi
    | succ d ih =>
      intro i hi
      have h1 := ih i (by omega)
      have h2 := hstep (i + d + 1) (by omega)
      have h3 := (hok _ (getD_mem (i := i + d + 1) (by omega))).2.1
      have : i + (d + 1) + 1 = i + d + 1 + 1 := by omega
      rw [this]
      omega
  rw [List.pairwise_iff_getElem]
  intro i j hi hj hij
  have := hall (j - i - 1) i (by omega)
  have e : i + (j - i - 1) + 1 = j := by omega
  rw [e, getD_eq hi, getD_eq hj] at this
  exact this

theorem srt_lt {T : List Row} (hs : Srt T) {i j : Nat} (hij : i < j) (hj : j < T.length) : (T.getD i z5).hi < (T.getD j z5).lo := by
  rw [getD_eq (by omega), getD_eq hj]
  exact List.pairwise_iff_getElem.1 hs.2 i j (by omega) hj hij
theorem srt_ok {T : List Row} (hs : Srt T) {i : Nat} (hi : i < T.length) : (T.getD i z5).ok := hs.1 _ (getD_mem hi)
theorem srt_lo {T : List Row} (hs : Srt T) : ∀ i, i < T.length → (i : Int) ≤ (T.getD i z5).lo
  | 0, h => (srt_ok hs h).1
  | i + 1, h => by
    have h1 := srt_lo hs i (by omega)
    have h2 := srt_ok hs (i := i) (by omega)
    have h3 : (T.getD i z5).hi < (T.getD (i + 1) z5).lo := srt_lt hs (Nat.lt_succ_self i) h
    have := h2.2.1
    have e : ((i + 1 : Nat) : Int) = (i : Int) + 1 := rfl
    rw [e]
    omega
theorem srt_length {T : List Row} (hs : Srt T) : T.length ≤ 1114112 := by
  rcases Nat.eq_zero_or_pos T.length with h0 | h0
  · omega
  · have h1 := srt_lo hs (T.length - 1) (by omega)
    have h2 := srt_ok hs (i := T.length - 1) (by omega)
    have h3 := h2.2.1
    have h4 := h2.2.2
    omega

/-! ### the place of the row that has r -/
def ofN (T : List Row) (r : Int) : Option Nat := T.findIdx? (·.has r)
def ofI (T : List Row) (r : Int) : Int := match ofN T r with | some i => (i : Int) | none => -1

theorem ofN_some {T : List Row} {r : Int} {i : Nat} (hi : i < T.length) (h : (T.getD i z5).has r = true) (hb : ∀ j, j < i → (T.getD j z5).has r = false) : ofN T r = some i := by
  unfold ofN
  rw [List.findIdx?_eq_some_iff_getElem]
  refine ⟨hi, by rw [← getD_eq hi]; exact h, fun j hj => ?_⟩
  rw [← getD_eq (by omega), hb j hj]
  simp
theorem ofN_none {T : List Row} {r : Int} (h : ∀ j, j < T.length → (T.getD j z5).has r = false) : ofN T r = none := by
  unfold ofN
  rw [List.findIdx?_eq_none_iff]
  intro x hx
  obtain ⟨j, hj, rfl⟩ := List.getElem_of_mem hx
  rw [← getD_eq hj]
  exact h j hj
theorem ofN_get {T : List Row} {r : Int} {i : Nat} (h : ofN T r = some i) : i < T.length ∧ (T.getD i z5).has r = true := by
  unfold ofN at h
  rw [List.findIdx?_eq_some_iff_getElem] at h
  obtain ⟨hi, hh, _⟩ := h
  exact ⟨hi, by rw [getD_eq hi]; exact hh⟩
theorem ofN_not {T : List Row} {r : Int} (h : ofN T r = none) : ∀ j, j < T.length → (T.getD j z5).has r = false := by
  intro j hj
  unfold ofN at h
  rw [List.findIdx?_eq_none_iff] at h
  exact h _ (getD_mem hj)
theorem find_of {T : List Row} {r : Int} : T.find? (·.has r) = (ofN T r).map (fun i => T.getD i z5) := by
  cases h : ofN T r with
  | none =>
    have := ofN_not h
    simp only [Option.map_none, List.find?_eq_none]
    intro x hx
    obtain ⟨j, hj, rfl⟩ := List.getElem_of_mem hx
    rw [← getD_eq hj, this j hj]
    simp
  | some i =>
    unfold ofN at h
    rw [List.findIdx?_eq_some_iff_getElem] at h
    obtain ⟨hi, hh, hb⟩ := h
    simp only [Option.map_some]
    rw [List.find?_eq_some_iff_getElem]
    refine ⟨by rw [getD_eq hi]; exact hh, i, hi, (getD_eq hi).symm, fun j hj => ?_⟩
    have := hb j hj
    simpa using this

/-- In a sorted list only one row has r. -/
theorem srt_one {T : List Row} (hs : Srt T) {r : Int} {i j : Nat} (hi : i < T.length) (hj : j < T.length) (h1 : (T.getD i z5).has r = true) (h2 : (T.getD j z5).has r = true) : i = j := by
  rw [Row.has_iff] at h1 h2
  rcases Nat.lt_trichotomy i j with h | h | h
  · have := srt_lt hs h hj; omega
  · exact h
  · have := srt_lt hs h hi; omega
theorem srt_of {T : List Row} (hs : Srt T) {r : Int} {i : Nat} (hi : i < T.length) (h : (T.getD i z5).has r = true) : ofN T r = some i := by
  refine ofN_some hi h fun j hj => ?_
  cases hc : (T.getD j z5).has r with
  | false => rfl
  | true => have := srt_one hs (by omega) hi hc h; omega
theorem srt_find {T : List Row} (hs : Srt T) {r : Int} {x : Row} (hx : x ∈ T) (h : x.has r = true) : T.find? (·.has r) = some x := by
  obtain ⟨j, hj, rfl⟩ := List.getElem_of_mem hx
  rw [find_of, srt_of hs hj (by rw [getD_eq hj]; exact h)]
  simp only [Option.map_some]
  rw [getD_eq hj]

/-! ### the binary search -/
def look (T : List Row) (r : Int) : Nat → Nat → Nat → Option Nat
  | 0, _, _ => none
  | f + 1, lo, hi =>
    if lo < hi then
      (if (T.getD ((lo + hi) / 2) z5).lo ≤ r ∧ r ≤ (T.getD ((lo + hi) / 2) z5).hi then some ((lo + hi) / 2)
       else if r < (T.getD ((lo + hi) / 2) z5).lo then look T r f lo ((lo + hi) / 2)
       else look T r f ((lo + hi) / 2 + 1) hi)
    else none
def lookA (T : List Row) (r : Int) : Option Nat := look T r (T.length + 1) 0 T.length
theorem look_some (T : List Row) (r : Int) : ∀ (f lo hi i : Nat), look T r f lo hi = some i → i < hi ∧ (T.getD i z5).lo ≤ r ∧ r ≤ (T.getD i z5).hi
  | 0, _, _, _, h => by simp [look] at h
  | f + 1, lo, hi, i, h => by
    unfold look at h
    split at h
    · split at h
      · rename_i hlt hin
        cases h
        exact ⟨by omega, hin⟩
      · split at h
        · have := look_some T r f _ _ i h
          exact ⟨by omega, this.2⟩
        · exact look_some T r f _ _ i h
    · cases h
theorem lookA_some {T : List Row} {r : Int} {i : Nat} (h : lookA T r = some i) : i < T.length ∧ (T.getD i z5).lo ≤ r ∧ r ≤ (T.getD i z5).hi := look_some T r _ _ _ i h

theorem look_srt {T : List Row} (hs : Srt T) (r : Int) : ∀ (f lo hi : Nat), hi ≤ T.length → hi - lo < f → (∀ i, i < T.length → (T.getD i z5).has r = true → lo ≤ i ∧ i < hi) → look T r f lo hi = ofN T r
  | 0, _, _, _, h, _ => by omega
  | f + 1, lo, hi, hle, hf, hin => by
    unfold look
    split
    · rename_i hlt
      have hm : (lo + hi) / 2 < T.length := by omega
      have hok := srt_ok hs hm
      split
      · rename_i h
        exact (srt_of hs hm (Row.has_iff.2 h)).symm
      · rename_i hno
        split
        · rename_i hb
          refine look_srt hs r f lo _ (by omega) (by omega) fun i hi' hh => ⟨(hin i hi' hh).1, ?_⟩
          rw [Row.has_iff] at hh
          rcases Nat.lt_or_ge i ((lo + hi) / 2) with h | h
          · exact h
          · rcases Nat.eq_or_lt_of_le h with h | h
            · rw [← h] at hh; omega
            · have := srt_lt hs h hi'; have := hok.2.1; omega
        · rename_i hb
          refine look_srt hs r f _ hi hle (by omega) fun i hi' hh => ⟨?_, (hin i hi' hh).2⟩
          rw [Row.has_iff] at hh
          rcases Nat.lt_or_ge ((lo + hi) / 2) i with h | h
          · exact h
          · rcases Nat.eq_or_lt_of_le h with h | h
            · rw [h] at hh; omega
            · have := srt_lt hs h hm; have := hok.2.1; omega
    · rename_i hge
      refine (ofN_none fun j hj => ?_).symm
      cases hc : (T.getD j z5).has r with
      | false => rfl
      | true => have := hin j hj hc; omega
theorem lookA_srt {T : List Row} (hs : Srt T) (r : Int) : lookA T r = ofN T r :=
  look_srt hs r _ _ _ (Nat.le_refl _) (by omega) fun _ hi _ => ⟨Nat.zero_le _, hi⟩

/-! ### the conversion -/
def conv (c : Nat) (r : Int) (x : Row) : Int := if 1114111 < x.delta c then x.lo + ((r - x.lo) - (r - x.lo) % 2 + ((c % 2 : Nat) : Int)) else r + x.delta c
/-- What unicode.to gives over the table T. -/
def toT (T : List Row) (c : Nat) (r : Int) : Int := match lookA T r with | some i => wrap32 (conv c r (T.getD i z5)) | none => r
/-- What SpecialCase's methods give: S is the standard's mapping. -/
def sp (S : Int → Int) (c : Nat) (T : List Row) (r : Int) : Int := match T.find? (·.has r) with | some x => wrap32 (conv c r x) | none => S r
theorem sp_some {S : Int → Int} {c : Nat} {T : List Row} {r : Int} {x : Row} (h : T.find? (·.has r) = some x) : sp S c T r = wrap32 (conv c r x) := by unfold sp; rw [h]
theorem sp_none {S : Int → Int} {c : Nat} {T : List Row} {r : Int} (h : T.find? (·.has r) = none) : sp S c T r = S r := by unfold sp; rw [h]
theorem wrap32_bd (n : Int) : -2147483648 ≤ wrap32 n ∧ wrap32 n ≤ 2147483647 := by unfold wrap32; omega
theorem wrap32_id {n : Int} (h1 : -2147483648 ≤ n) (h2 : n ≤ 2147483647) : wrap32 n = n := by unfold wrap32; omega

/-- What the reference says of a row that has r. -/
def mapV (x : Row) (r : Int) (c : Nat) : Int := if byT x = true then r - (r - x.lo) % 2 + (if c = 1 then 1 else 0) else r + x.delta c
theorem byT_delta {x : Row} (h : byT x = true) (c : Nat) : x.delta c = 1114112 := by
  simp only [byT, Bool.and_eq_true, beq_iff_eq] at h
  unfold Row.delta
  split
  · exact h.1.1
  · split
    · exact h.1.2
    · exact h.2
theorem good_delta {x : Row} (h : goodB x = true) (hb : ¬ byT x = true) (c : Nat) : -1114111 ≤ x.delta c ∧ x.delta c ≤ 1114111 ∧ 0 ≤ x.lo + x.delta c ∧ x.hi + x.delta c ≤ 1114111 := by
  simp only [goodB, Bool.and_eq_true, decide_eq_true_eq, if_neg hb, dOk] at h
  unfold Row.delta
  split
  · omega
  · split <;> omega
theorem conv_map {x : Row} (hok : x.ok) (h : goodB x = true) {r : Int} (hr : x.has r = true) {c : Nat} (hc : c < 3) : wrap32 (conv c r x) = mapV x r c ∧ 0 ≤ mapV x r c ∧ mapV x r c ≤ 1114111 := by
  rw [Row.has_iff] at hr
  obtain ⟨o1, o2, o3⟩ := hok
  by_cases hb : byT x = true
  · have hd := byT_delta hb c
    have hg : (x.hi - x.lo) % 2 = 1 := by
      simp only [goodB, Bool.and_eq_true, if_pos hb, beq_iff_eq] at h
      exact h.2
    unfold conv mapV
    rw [if_pos (by omega), if_pos hb]
    have hc3 : c = 0 ∨ c = 1 ∨ c = 2 := by omega
    rcases hc3 with rfl | rfl | rfl <;> simp [wrap32] <;> omega
  · have hd := good_delta h hb c
    unfold conv mapV
    rw [if_neg (by omega), if_neg hb]
    unfold wrap32
    omega

/-! ### cut, singles, without, stay -/
theorem sp_flatMap {S : Int → Int} {c : Nat} {r : Int} (f : Row → List Row) : ∀ (T : List Row),
    (∀ x ∈ T, (x.has r = true → ∃ y, (f x).find? (·.has r) = some y ∧ conv c r y = conv c r x) ∧ (x.has r = false → (f x).find? (·.has r) = none)) → sp S c (T.flatMap f) r = sp S c T r
  | [], _ => rfl
  | x :: T, h => by
    have ih := sp_flatMap (S := S) f T fun y hy => h y (.tail _ hy)
    have hx := h x (.head _)
    unfold sp at ih ⊢
    rw [List.flatMap_cons, List.find?_append, List.find?_cons]
    cases hh : x.has r with
    | true =>
      obtain ⟨y, hy, he⟩ := hx.1 hh
      rw [hy]
      simp [he]
    | false =>
      rw [hx.2 hh]
      simpa using ih

def cut1 (x : Row) : List Row := if 3 ≤ x.hi - x.lo then [⟨x.lo, x.lo + 1, x.d0, x.d1, x.d2⟩, ⟨x.lo + 2, x.hi, x.d0, x.d1, x.d2⟩] else [x]
def cut (T : List Row) : List Row := T.flatMap cut1
theorem conv_shift (c : Nat) (r : Int) (x y : Row) (h0 : y.d0 = x.d0) (h1 : y.d1 = x.d1) (h2 : y.d2 = x.d2) (hl : (y.lo - x.lo) % 2 = 0) : conv c r y = conv c r x := by
  have hd : y.delta c = x.delta c := by unfold Row.delta; rw [h0, h1, h2]
  unfold conv
  rw [hd]
  split
  · omega
  · rfl
theorem sp_cut (S : Int → Int) (c : Nat) (r : Int) (T : List Row) : sp S c (cut T) r = sp S c T r := by
  refine sp_flatMap cut1 T fun x _ => ⟨fun hh => ?_, fun hh => ?_⟩
  · rw [Row.has_iff] at hh
    unfold cut1
    split
    · rename_i h3
      by_cases hr : r ≤ x.lo + 1
      · refine ⟨_, ?_, conv_shift c r x ⟨x.lo, x.lo + 1, x.d0, x.d1, x.d2⟩ rfl rfl rfl (by simp)⟩
        rw [List.find?_cons]
        have : (Row.mk x.lo (x.lo + 1) x.d0 x.d1 x.d2).has r = true := Row.has_iff.2 ⟨hh.1, hr⟩
        rw [this]
      · refine ⟨_, ?_, conv_shift c r x ⟨x.lo + 2, x.hi, x.d0, x.d1, x.d2⟩ rfl rfl rfl (by simp only; omega)⟩
        have h1 : (Row.mk x.lo (x.lo + 1) x.d0 x.d1 x.d2).has r = false := by simp only [Row.has, Bool.and_eq_false_iff, decide_eq_false_iff_not]; right; exact hr
        have h2 : (Row.mk (x.lo + 2) x.hi x.d0 x.d1 x.d2).has r = true := Row.has_iff.2 ⟨by simp only; omega, hh.2⟩
        simp [h1, h2]
    · exact ⟨x, by simp [Row.has_iff.2 hh], rfl⟩
  · have hn : ¬ (x.lo ≤ r ∧ r ≤ x.hi) := fun h => by rw [Row.has_iff.2 h] at hh; cases hh
    unfold cut1
    split
    · have h1 : (Row.mk x.lo (x.lo + 1) x.d0 x.d1 x.d2).has r = false := by
        cases h : (Row.mk x.lo (x.lo + 1) x.d0 x.d1 x.d2).has r with
        | false => rfl
        | true => rw [Row.has_iff] at h; simp only at h; omega
      have h2 : (Row.mk (x.lo + 2) x.hi x.d0 x.d1 x.d2).has r = false := by
        cases h : (Row.mk (x.lo + 2) x.hi x.d0 x.d1 x.d2).has r with
        | false => rfl
        | true => rw [Row.has_iff] at h; simp only at h; omega
      simp [h1, h2]
    · simp [hh]

/-- A list that is made row by row, each row's part within that row, is sorted. -/
theorem srt_flatMap {T : List Row} (hs : Srt T) (f : Row → List Row) (h : ∀ x ∈ T, (∀ y ∈ f x, y.ok ∧ x.lo ≤ y.lo ∧ y.hi ≤ x.hi) ∧ (f x).Pairwise fun a b => a.hi < b.lo) : Srt (T.flatMap f) := by
  refine ⟨fun y hy => ?_, ?_⟩
  · obtain ⟨x, hx, hy⟩ := List.mem_flatMap.1 hy
    exact ((h x hx).1 y hy).1
  · rw [List.pairwise_flatMap]
    refine ⟨fun x hx => (h x hx).2, ?_⟩
    refine List.Pairwise.imp_of_mem ?_ hs.2
    intro a b ha hb hab x hx y hy
    have h1 := ((h a ha).1 x hx).2.2
    have h2 := ((h b hb).1 y hy).2.1
    omega
theorem srt_cut {T : List Row} (hs : Srt T) : Srt (cut T) := by
  refine srt_flatMap hs cut1 fun x hx => ?_
  obtain ⟨o1, o2, o3⟩ := hs.1 x hx
  unfold cut1
  split
  · refine ⟨fun y hy => ?_, ?_⟩
    · simp only [List.mem_cons, List.not_mem_nil, or_false] at hy
      rcases hy with rfl | rfl
      · exact ⟨⟨o1, by simp only; omega, by simp only; omega⟩, by simp, by simp only; omega⟩
      · exact ⟨⟨by simp only; omega, by simp only; omega, o3⟩, by simp only; omega, by simp⟩
    · simp
  · refine ⟨fun y hy => ?_, by simp⟩
    simp only [List.mem_cons, List.not_mem_nil, or_false] at hy
    subst hy
    exact ⟨⟨o1, o2, o3⟩, Int.le_refl _, Int.le_refl _⟩
theorem wf_cut {T : List Row} (hs : Srt T) (hw : Wf T) : Wf (cut T) := by
  intro y hy
  obtain ⟨x, hx, hy⟩ := List.mem_flatMap.1 hy
  obtain ⟨o1, o2, o3⟩ := hs.1 x hx
  obtain ⟨w1, w2, w3, w4, w5⟩ := hw x hx
  unfold cut1 at hy
  split at hy
  · simp only [List.mem_cons, List.not_mem_nil, or_false] at hy
    rcases hy with rfl | rfl
    · exact ⟨w1, w2, by simp only; omega, by simp only; omega, w5⟩
    · exact ⟨by simp only; omega, by simp only; omega, w3, w4, w5⟩
  · simp only [List.mem_cons, List.not_mem_nil, or_false] at hy
    subst hy
    exact ⟨w1, w2, w3, w4, w5⟩

/-- One code point n of the row x, as a row. -/
def single (x : Row) (n : Int) : Row := ⟨n, n, mapV x n 0 - n, mapV x n 1 - n, mapV x n 2 - n⟩
def singles1 (x : Row) : List Row := (List.range (x.hi - x.lo + 1).toNat).map fun (j : Nat) => single x (x.lo + (j : Int))
def singles (T : List Row) : List Row := T.flatMap singles1
theorem single_delta (x : Row) (n : Int) {c : Nat} (hc : c < 3) : (single x n).delta c = mapV x n c - n := by
  have hc3 : c = 0 ∨ c = 1 ∨ c = 2 := by omega
  rcases hc3 with rfl | rfl | rfl <;> rfl
theorem find_range_none {r lo : Int} (f : Nat → Row) (hf : ∀ j : Nat, (f j).has r = true → r = lo + (j : Int)) : ∀ n : Nat, (r < lo ∨ lo + (n : Int) ≤ r) → ((List.range n).map f).find? (·.has r) = none := by
  intro n hn
  rw [List.find?_eq_none]
  intro y hy
  obtain ⟨j, hj, rfl⟩ := List.mem_map.1 hy
  have hj' := List.mem_range.1 hj
  intro hc
  have := hf j hc
  omega
theorem singles_find {x : Row} (r : Int) (h : x.has r = true) : (singles1 x).find? (·.has r) = some (single x r) := by
  rw [Row.has_iff] at h
  have hmem : single x r ∈ singles1 x := by
    refine List.mem_map.2 ⟨(r - x.lo).toNat, List.mem_range.2 (by omega), ?_⟩
    have : x.lo + ((r - x.lo).toNat : Int) = r := by omega
    rw [this]
  have hh : (single x r).has r = true := Row.has_iff.2 ⟨Int.le_refl _, Int.le_refl _⟩
  cases hf : (singles1 x).find? (·.has r) with
  | none =>
    rw [List.find?_eq_none] at hf
    exact absurd hh (hf _ hmem)
  | some y =>
    have h1 := List.find?_some hf
    have h2 := List.mem_of_find?_eq_some hf
    obtain ⟨j, _, rfl⟩ := List.mem_map.1 h2
    rw [Row.has_iff] at h1
    simp only [single] at h1
    have : x.lo + (j : Int) = r := by omega
    rw [this]
theorem singles_none {x : Row} (r : Int) (h : x.has r = false) : (singles1 x).find? (·.has r) = none := by
  rw [List.find?_eq_none]
  intro y hy hc
  obtain ⟨j, hj, rfl⟩ := List.mem_map.1 hy
  have hj' := List.mem_range.1 hj
  rw [Row.has_iff] at hc
  simp only [single] at hc
  have : x.has r = true := Row.has_iff.2 ⟨by omega, by omega⟩
  rw [this] at h
  cases h
theorem conv_small {c : Nat} {r : Int} {y : Row} (h : y.delta c ≤ 1114111) : conv c r y = r + y.delta c := by unfold conv; rw [if_neg (by omega)]
theorem wrap_eq_small {a b : Int} (h : wrap32 a = wrap32 b) : wrap32 a = wrap32 b := h
theorem sp_flatMap' {S : Int → Int} {c : Nat} {r : Int} (f : Row → List Row) : ∀ (T : List Row),
    (∀ x ∈ T, (x.has r = true → ∃ y, (f x).find? (·.has r) = some y ∧ wrap32 (conv c r y) = wrap32 (conv c r x)) ∧ (x.has r = false → (f x).find? (·.has r) = none)) → sp S c (T.flatMap f) r = sp S c T r
  | [], _ => rfl
  | x :: T, h => by
    have ih := sp_flatMap' (S := S) f T fun y hy => h y (.tail _ hy)
    have hx := h x (.head _)
    unfold sp at ih ⊢
    rw [List.flatMap_cons, List.find?_append, List.find?_cons]
    cases hh : x.has r with
    | true =>
      obtain ⟨y, hy, he⟩ := hx.1 hh
      rw [hy]
      simp [he]
    | false =>
      rw [hx.2 hh]
      simpa using ih
theorem sp_singles (S : Int → Int) {c : Nat} (hc : c < 3) (r : Int) {T : List Row} (hw : Wf T) (hv : validB T = true) : sp S c (singles T) r = sp S c T r := by
  refine sp_flatMap' singles1 T fun x hx => ⟨fun hh => ?_, fun hh => singles_none r hh⟩
  have hg := valid_good hv hx
  have hok := good_ok (hw x hx) hg
  obtain ⟨e, b1, b2⟩ := conv_map hok hg hh hc
  have hr := Row.has_iff.1 hh
  have hd := single_delta x r hc
  refine ⟨_, singles_find r hh, ?_⟩
  obtain ⟨o1, o2, o3⟩ := hok
  rw [e, conv_small (by rw [hd]; omega), hd]
  unfold wrap32
  omega
theorem single_bd {x : Row} (hok : x.ok) (hg : goodB x = true) {n : Int} (hn : x.has n = true) (c : Nat) (hc : c < 3) : -1114111 ≤ mapV x n c - n ∧ mapV x n c - n ≤ 1114111 := by
  obtain ⟨_, b1, b2⟩ := conv_map hok hg hn hc
  have := Row.has_iff.1 hn
  obtain ⟨o1, o2, o3⟩ := hok
  omega
theorem srt_singles {T : List Row} (hs : Srt T) : Srt (singles T) := by
  refine srt_flatMap hs singles1 fun x hx => ?_
  obtain ⟨o1, o2, o3⟩ := hs.1 x hx
  refine ⟨fun y hy => ?_, ?_⟩
  · obtain ⟨j, hj, rfl⟩ := List.mem_map.1 hy
    have hj' := List.mem_range.1 hj
    exact ⟨⟨by simp only [single]; omega, by simp [single], by simp only [single]; omega⟩, by simp only [single]; omega, by simp only [single]; omega⟩
  · unfold singles1
    rw [List.pairwise_map]
    refine List.Pairwise.imp ?_ List.pairwise_lt_range
    intro a b hab
    simp only [single]
    omega

theorem srt_sub {T U : List Row} (hs : Srt T) (h : U.Sublist T) : Srt U := ⟨fun x hx => hs.1 x (h.subset hx), hs.2.sublist h⟩
theorem srt_erase {T : List Row} (hs : Srt T) (k : Nat) : Srt (T.eraseIdx k) := srt_sub hs (List.eraseIdx_sublist T k)
theorem sp_erase (S : Int → Int) (c : Nat) (r : Int) : ∀ (T : List Row) (k : Nat), ofN T r ≠ some k → (∀ i j, i < T.length → j < T.length → (T.getD i z5).has r = true → (T.getD j z5).has r = true → i = j) → sp S c (T.eraseIdx k) r = sp S c T r := by
  intro T k hk hone
  by_cases hkl : k < T.length
  · have hno : (T.getD k z5).has r = false := by
      cases hc : (T.getD k z5).has r with
      | false => rfl
      | true =>
        refine absurd (ofN_some hkl hc fun j hj => ?_) hk
        cases hc' : (T.getD j z5).has r with
        | false => rfl
        | true => have := hone j k (by omega) hkl hc' hc; omega
    have e : T.eraseIdx k = T.take k ++ T.drop (k + 1) := List.eraseIdx_eq_take_drop_succ ..
    have e2 : T = T.take k ++ (T.getD k z5 :: T.drop (k + 1)) := by
      rw [getD_eq hkl, ← List.drop_eq_getElem_cons hkl, List.take_append_drop]
    unfold sp
    rw [e]
    conv => rhs; rw [e2]
    rw [List.find?_append, List.find?_append, List.find?_cons, hno]
  · rw [List.eraseIdx_of_length_le (by omega)]
theorem sp_without (S : Int → Int) (c : Nat) (r : Int) {T : List Row} (hs : Srt T) {k : Nat} (hk : ofI T r ≠ (k : Int)) : sp S c (T.eraseIdx k) r = sp S c T r := by
  refine sp_erase S c r T k (fun h => hk ?_) fun i j hi hj h1 h2 => srt_one hs hi hj h1 h2
  unfold ofI
  rw [h]

def stay1 (x : Row) : Row := ⟨x.lo, x.hi, 0, 0, 0⟩
def stay (T : List Row) : List Row := T.map stay1
theorem srt_stay {T : List Row} (hs : Srt T) : Srt (stay T) := by
  refine ⟨fun y hy => ?_, ?_⟩
  · obtain ⟨x, hx, rfl⟩ := List.mem_map.1 hy
    exact hs.1 x hx
  · unfold stay
    rw [List.pairwise_map]
    exact hs.2
theorem stay_find (r : Int) : ∀ T : List Row, (stay T).find? (·.has r) = (T.find? (·.has r)).map stay1
  | [] => rfl
  | x :: T => by
    have ih := stay_find r T
    show (stay1 x :: stay T).find? _ = _
    rw [List.find?_cons, List.find?_cons]
    have : (stay1 x).has r = x.has r := rfl
    rw [this]
    cases x.has r with
    | true => rfl
    | false => exact ih
theorem ofI_find {T : List Row} {r : Int} : (0 ≤ ofI T r → ∃ x, T.find? (·.has r) = some x) ∧ (ofI T r < 0 → T.find? (·.has r) = none) := by
  rw [find_of]
  unfold ofI
  cases h : ofN T r with
  | none => exact ⟨fun h => by simp at h, fun _ => rfl⟩
  | some i => exact ⟨fun _ => ⟨_, rfl⟩, fun h => by simp at h; omega⟩
theorem sp_stay (S : Int → Int) (c : Nat) {r : Int} (h1 : -2147483648 ≤ r) (h2 : r ≤ 2147483647) (T : List Row) : (0 ≤ ofI T r → sp S c (stay T) r = r) ∧ (ofI T r < 0 → sp S c (stay T) r = S r) := by
  refine ⟨fun h => ?_, fun h => ?_⟩
  · obtain ⟨x, hx⟩ := ofI_find.1 h
    have : (stay T).find? (·.has r) = some (stay1 x) := by rw [stay_find, hx]; rfl
    rw [sp_some this]
    have hd : (stay1 x).delta c = 0 := by unfold Row.delta stay1; simp
    rw [conv_small (by rw [hd]; omega), hd, Int.add_zero, wrap32_id h1 h2]
  · have : (stay T).find? (·.has r) = none := by rw [stay_find, ofI_find.2 h]; rfl
    exact sp_none this

/-- The number of code points. -/
def countI (T : List Row) : Int := (T.map fun x => x.hi - x.lo + 1).sum
end Go.Proofs.YtfcalmjojmfooaaDoor
