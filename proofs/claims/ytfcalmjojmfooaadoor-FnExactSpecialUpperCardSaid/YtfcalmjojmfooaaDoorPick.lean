/-
  THE READER OF THE INPUT's BYTES: (*rd).pick and (*rd).one: what they return lies in its bounds, and they write the reader's own count alone.
-/
import Derived.Test.YtfcalmjojmfooaaDoorBase
import Derived.Laws.BitsAllLaws
namespace Go.Proofs.YtfcalmjojmfooaaDoor
open Go.RowKit

/-- The bytes '.slice A len _' can be read, in blocks below g. -/
def Bytes (w : World) (g : Nat) (A : Option Addr) (len : Nat) : Prop :=
  len ≤ 1048576 ∧ (0 < len → ∃ b o, A = some ⟨b, o, none⟩ ∧ b < g ∧ ∀ i, i < len → ∃ c : Int, 0 ≤ c ∧ c ≤ 255 ∧ w.cell? ⟨b, o + i, none⟩ = some (.int .u8 c))
/-- The reader lies in block g: it has read p numbers. -/
def Rd (w : World) (g : Nat) (A : Option Addr) (len cap p : Nat) : Prop :=
  w.heap[g]? = some (.cells #[.slice A len cap, .int .i64 (p : Int)] 47 (0, 0)) ∧ Bytes w g A len
theorem Bytes.keep {w w' : World} {g : Nat} {A : Option Addr} {len : Nat} (h : Bytes w g A len) (hk : ∀ k, k < g → w'.heap[k]? = w.heap[k]?) : Bytes w' g A len :=
  ⟨h.1, fun hl => by
    obtain ⟨b, o, rfl, hb, hc⟩ := h.2 hl
    refine ⟨b, o, rfl, hb, fun i hi => ?_⟩
    obtain ⟨c, h0, h1, hcell⟩ := hc i hi
    exact ⟨c, h0, h1, (World.cell?_of_block (w := w) (hk b hb)).trans hcell⟩⟩
theorem Rd.lt {w : World} {g : Nat} {A : Option Addr} {len cap p : Nat} (h : Rd w g A len cap p) : g < w.heap.size := (Array.getElem?_eq_some_iff.1 h.1).1
theorem Rd.keep {w w' : World} {g : Nat} {A : Option Addr} {len cap p : Nat} (h : Rd w g A len cap p) (hk : ∀ k, k ≤ g → w'.heap[k]? = w.heap[k]?) : Rd w' g A len cap p :=
  ⟨(hk g (Nat.le_refl _)).trans h.1, h.2.keep fun k hk' => hk k (by omega)⟩
theorem Rd.alloc {w : World} {g : Nat} {A : Option Addr} {len cap p : Nat} (h : Rd w g A len cap p) (o : Obj) : Rd (w.alloc o) g A len cap p :=
  h.keep fun k hk => Below.heap_alloc w o k (by have := h.lt; omega)
theorem Rd.cells {w : World} {g : Nat} {A : Option Addr} {len cap p : Nat} (h : Rd w g A len cap p) :
    w.cell? ⟨g, 0, none⟩ = some (.slice A len cap) ∧ w.cell? ⟨g, 1, none⟩ = some (.int .i64 (p : Int)) ∧ w.frozen? ⟨g, 1, none⟩ = false :=
  ⟨cell_of_row w g 0 _ _ _ h.1, cell_of_row w g 1 _ _ _ h.1, by simp [World.frozen?, h.1]⟩
theorem Rd.step {w : World} {g : Nat} {A : Option Addr} {len cap p : Nat} (h : Rd w g A len cap p) (q : Nat) :
    Rd ((w.setCell ⟨g, 1, none⟩ (.int .i64 ((p : Int) + 1))).drewN q) g A len cap (p + 1) ∧ w.grownBy ((w.setCell ⟨g, 1, none⟩ (.int .i64 ((p : Int) + 1))).drewN q) (some g) := by
  have ho : ∀ k, k ≠ g → ((w.setCell ⟨g, 1, none⟩ (.int .i64 ((p : Int) + 1))).drewN q).heap[k]? = w.heap[k]? := fun k hk => Below.heap_setCell w _ _ k hk
  refine ⟨⟨?_, h.2.keep fun k hk => ho k (by omega)⟩, rfl, rfl, rfl, ?_, fun k _ hne => ho k (fun e => hne (by rw [e]))⟩
  · show (w.setCell ⟨g, 1, none⟩ (.int .i64 ((p : Int) + 1))).heap[g]? = _
    simp [World.setCell, Array.getElem?_modify, h.1]
  · show w.heap.size ≤ (w.setCell ⟨g, 1, none⟩ (.int .i64 ((p : Int) + 1))).heap.size
    simp [World.setCell]

theorem i64_xor (a b : Nat) (ha : a < 4611686018427387904) (hb : b < 4611686018427387904) : bits .xor .i64 (a : Int) (b : Int) = ((a ^^^ b : Nat) : Int) := by
  have hx : a ^^^ b < 2 ^ 62 := Nat.xor_lt_two_pow (by omega) (by omega)
  show IntKind.i64.wrap ((BitVec.ofInt 64 (a : Int) ^^^ BitVec.ofInt 64 (b : Int)).toNat : Int) = _
  rw [BitVec.toNat_xor, ofInt_u64 a (by omega), ofInt_u64 b (by omega)]
  exact IntWalk.i64_in _ (by omega)
theorem xor_bd (X : Int) (h0 : 0 ≤ X) (h1 : X ≤ 1000000000) : 0 ≤ bits .xor .i64 X (X / 64) ∧ bits .xor .i64 X (X / 64) ≤ 4611686018427387904 := by
  obtain ⟨a, rfl⟩ := Int.eq_ofNat_of_zero_le h0
  have e : (a : Int) / 64 = ((a / 64 : Nat) : Int) := by omega
  rw [e, i64_xor a (a / 64) (by omega) (by omega)]
  have hx : a ^^^ a / 64 < 2 ^ 62 := Nat.xor_lt_two_pow (by omega) (by omega)
  omega

/-- What pick(n) leaves. -/
def PickPost (w : World) (g : Nat) (A : Option Addr) (len cap p : Nat) (n : Int) (e : Ending) (w' : World) : Prop :=
  ∃ v : Int, 0 ≤ v ∧ (1 ≤ n → v < n) ∧ e = .returned (.int .i64 v) ∧ Rd w' g A len cap (p + 1) ∧ w.grownBy w' (some g)
theorem pickPost_mk {w : World} {g : Nat} {A : Option Addr} {len cap p : Nat} {n v : Int} {e : Ending} {w' : World} (h : Rd w g A len cap p) (q : Nat) (hw : w' = (w.setCell ⟨g, 1, none⟩ (.int .i64 ((p : Int) + 1))).drewN q)
    (h0 : 0 ≤ v) (h1 : 1 ≤ n → v < n) (he : e = .returned (.int .i64 v)) : PickPost w g A len cap p n e w' := by
  subst hw
  exact ⟨v, h0, h1, he, (h.step q).1, (h.step q).2⟩

set_option maxHeartbeats 1000000 in
theorem pick_any (g : Nat) (A : Option Addr) (len cap p : Nat) (n : Int) (w : World) (h : Rd w g A len cap p) (hp : p ≤ 1000000) (hn : n ≤ 4611686018427387904) :
    Calls Tryd.prog 35 #[.pointer (some ⟨g, 0, none⟩), .int .i64 n] w (PickPost w g A len cap p n) := by
  obtain ⟨c0, c1, cf⟩ := h.cells
  have HR := Lib.hid h
  obtain ⟨hl, hby⟩ := h.2
  clear h
  by_cases hn1 : n < 1
  · clear hby
    go_enter Tryd.func35, Tryd.ntmps35
    go_wp2
    go_ret
    exact pickPost_mk HR.out 0 rfl (Int.le_refl _) (fun h => by omega) rfl
  · have hn2 : 1 ≤ n := by omega
    by_cases hl0 : len = 0
    · have hb0 : ((len : Int) == 0) = true := by simp [hl0]
      clear hby hl0
      go_enter Tryd.func35, Tryd.ntmps35
      go_wp2
      go_ret
      exact pickPost_mk HR.out 0 rfl (Int.le_refl _) (fun h => by omega) rfl
    · have hb0 : ((len : Int) == 0) = false := by simp; omega
      obtain ⟨b, o, rfl, hbg, hc⟩ := hby (by omega)
      have hbne : b ≠ g := by omega
      by_cases hpl : p < len
      · obtain ⟨c, q0, q1, hcell⟩ := hc p hpl
        have hcell' : (w.setCell ⟨g, 1, none⟩ (.int .i64 ((p : Int) + 1))).cell? ⟨b, o + p, none⟩ = some (.int .u8 c) := (World.cell?_of_block (w := w) (Below.heap_setCell w _ _ b hbne)).trans hcell
        clear hc hl0
        go_enter Tryd.func35, Tryd.ntmps35
        go_wp2
        go_ret
        exact pickPost_mk HR.out 0 rfl (Int.emod_nonneg _ (by omega)) (fun _ => Int.emod_lt_of_pos _ (by omega)) rfl
      · have hm1 : p % len < len := Nat.mod_lt _ (by omega)
        have hm2 : (p * 7 + 3) % len < len := Nat.mod_lt _ (by omega)
        obtain ⟨x1, q0, q1, hx1⟩ := hc _ hm1
        obtain ⟨x2, q2, q3, hx2⟩ := hc _ hm2
        have hx1' : (w.setCell ⟨g, 1, none⟩ (.int .i64 ((p : Int) + 1))).cell? ⟨b, o + p % len, none⟩ = some (.int .u8 x1) := (World.cell?_of_block (w := w) (Below.heap_setCell w _ _ b hbne)).trans hx1
        have hx2' : (w.setCell ⟨g, 1, none⟩ (.int .i64 ((p : Int) + 1))).cell? ⟨b, o + (p * 7 + 3) % len, none⟩ = some (.int .u8 x2) := (World.cell?_of_block (w := w) (Below.heap_setCell w _ _ b hbne)).trans hx2
        have hm3 : (p : Int) % (len : Int) < (len : Int) := Int.emod_lt_of_pos _ (by omega)
        have hm4 : ((p : Int) * 7 + 3) % (len : Int) < (len : Int) := Int.emod_lt_of_pos _ (by omega)
        have hm5 : 0 ≤ (p : Int) % (len : Int) := Int.emod_nonneg _ (by omega)
        have hm6 : 0 ≤ ((p : Int) * 7 + 3) % (len : Int) := Int.emod_nonneg _ (by omega)
        have hq1 : 0 ≤ (p : Int) / (len : Int) := Int.ediv_nonneg (by omega) (by omega)
        have hq2 : (p : Int) / (len : Int) ≤ (p : Int) := Int.ediv_le_self _ (by omega)
        have hlp : (1 : Int) ≤ (len : Int) := by omega
        clear hc hl0
        go_enter Tryd.func35, Tryd.ntmps35
        go_wp2
        go_quiet (fail)
        have hX0 : 0 ≤ x1 * 131 + x2 * 1117 + (p : Int) * 29 + (p : Int) / (len : Int) * 53 := by omega
        have hX1 : x1 * 131 + x2 * 1117 + (p : Int) * 29 + (p : Int) / (len : Int) * 53 ≤ 1000000000 := by omega
        clear hx1 hx2 hx1' hx2' hm1 hm2 hm3 hm4 hm5 hm6 hq1 hq2
        generalize x1 * 131 + x2 * 1117 + (p : Int) * 29 + (p : Int) / (len : Int) * 53 = X at hX0 hX1 ⊢
        obtain ⟨hx2, hx3⟩ := xor_bd X hX0 hX1
        go_wp2
        go_ret
        exact pickPost_mk HR.out nq rfl (Int.emod_nonneg _ (by omega)) (fun _ => Int.emod_lt_of_pos _ (by omega)) rfl

/-- What one(list) leaves. -/
def OnePost (w : World) (g : Nat) (A : Option Addr) (len cap p : Nat) (lo hi : Int) (e : Ending) (w' : World) : Prop :=
  ∃ z : Int, lo ≤ z ∧ z ≤ hi ∧ e = .returned (.int .i64 z) ∧ Rd w' g A len cap (p + 1) ∧ w.grownBy w' (some g)

set_option maxHeartbeats 1000000 in
theorem one_any (g : Nat) (A : Option Addr) (len cap p bl m cp : Nat) (lo hi : Int) (w : World) (h : Rd w g A len cap p) (hp : p ≤ 1000000) (hm1 : 1 ≤ m) (hm2 : m ≤ 100) (hne : bl ≠ g)
    (hc : ∀ i, i < m → ∃ z : Int, lo ≤ z ∧ z ≤ hi ∧ w.cell? ⟨bl, i, none⟩ = some (.int .i64 z)) :
    Calls Tryd.prog 34 #[.pointer (some ⟨g, 0, none⟩), .slice (some ⟨bl, 0, none⟩) m cp] w (OnePost w g A len cap p lo hi) := by
  have HP := Lib.hid (pick_any g A len cap p (m : Int) w h hp (by omega))
  have HC := Lib.hid hc
  clear h hc
  go_enter Tryd.func34, Tryd.ntmps34
  go_wp2_with fail
  refine HP.out.mono ?_
  rintro e w1 ⟨v, h0, h1, rfl, hrd, hgr⟩
  obtain ⟨j, rfl⟩ := Int.eq_ofNat_of_zero_le h0
  have hj : j < m := by have := h1 (by omega); omega
  obtain ⟨z, hz1, hz2, hz⟩ := HC.out j hj
  have hz' : w1.cell? ⟨bl, j, none⟩ = some (.int .i64 z) := hgr.cell hz (fun e => hne (by simpa using e))
  have HRD := Lib.hid hrd
  have HGR := Lib.hid hgr
  clear hrd hgr h1 hz
  go_wp2
  go_ret
  exact ⟨z, hz1, hz2, rfl, HRD.out, HGR.out⟩

theorem lits_cells (W : World) (zs : List Int) (t : TypeId) (n : Nat) (hn : n = W.heap.size) (lo hi : Int) (hz : ∀ z ∈ zs, lo ≤ z ∧ z ≤ hi) :
    ∀ i, i < zs.length → ∃ z : Int, lo ≤ z ∧ z ≤ hi ∧ (W.alloc (.cells (zs.map (Value.int .i64)).toArray t)).cell? ⟨n, i, none⟩ = some (.int .i64 z) := by
  intro i hi'
  subst hn
  refine ⟨zs[i], (hz _ (List.getElem_mem hi')).1, (hz _ (List.getElem_mem hi')).2, ?_⟩
  rw [World.cell?_alloc_new]
  simp [hi']
end Go.Proofs.YtfcalmjojmfooaaDoor
