/-
  WORDS ON MEMORY: a slice of case ranges that reads as a list of rows; the variable unicode.CaseRanges.
-/
import Derived.Test.YtfcalmjojmfooaaDoorChecked
import Derived.Test.YtfcalmjojmfooaaDoorPlain
import Derived.WalkKit
import Derived.WalkLawsBesides
import Derived.WalkSpells
import Derived.Lib.Hide
import Derived.Deep.LoopGhost
import Derived.Deep.DeepMust
import Derived.Deep.QuietTactic
import Derived.BigQuiet
import Derived.Deep.RegionWith
import Derived.Deep.DeepFit
import Derived.Laws.DeepBits32
namespace Go.Proofs.YtfcalmjojmfooaaDoor
open Go.RowKit

def Cells (w : World) (b o : Nat) (T : List Row) : Prop :=
  ∀ i, i < T.length → w.cell? ⟨b, o + i * 5, none⟩ = some (.int .u32 (T.getD i z5).lo) ∧ w.cell? ⟨b, o + i * 5 + 1, none⟩ = some (.int .u32 (T.getD i z5).hi) ∧
    w.cell? ⟨b, o + i * 5 + 2, none⟩ = some (.int .i32 (T.getD i z5).d0) ∧ w.cell? ⟨b, o + i * 5 + 3, none⟩ = some (.int .i32 (T.getD i z5).d1) ∧ w.cell? ⟨b, o + i * 5 + 4, none⟩ = some (.int .i32 (T.getD i z5).d2)
theorem Cells.delta {w : World} {b o : Nat} {T : List Row} (h : Cells w b o T) (i : Nat) (hi : i < T.length) : ∀ c, c < 3 → w.cell? ⟨b, o + i * 5 + 2 + c, none⟩ = some (.int .i32 ((T.getD i z5).delta c))
  | 0, _ => (h i hi).2.2.1
  | 1, _ => (h i hi).2.2.2.1
  | 2, _ => (h i hi).2.2.2.2
  | _ + 3, hc => by omega
theorem Cells.below {w w' : World} {b o B : Nat} {T : List Row} (h : Cells w b o T) (hb : Below B w w') (hlt : b < B) : Cells w' b o T := fun i hi => by
  have hc : ∀ j, w'.cell? ⟨b, j, none⟩ = w.cell? ⟨b, j, none⟩ := fun j => hb.cell (p := ⟨b, j, none⟩) hlt
  obtain ⟨h0, h1, h2, h3, h4⟩ := h i hi
  exact ⟨(hc _).trans h0, (hc _).trans h1, (hc _).trans h2, (hc _).trans h3, (hc _).trans h4⟩

/-- The slice '.slice A T.length c' reads as T. -/
def Lst (w : World) (A : Option Addr) (T : List Row) : Prop := 0 < T.length → ∃ b o, A = some ⟨b, o, none⟩ ∧ b < w.heap.size ∧ Cells w b o T
theorem Lst.below {w w' : World} {A : Option Addr} {T : List Row} (h : Lst w A T) (hb : Below w.heap.size w w') : Lst w' A T := fun ht => by
  obtain ⟨b, o, rfl, hlt, hc⟩ := h ht
  exact ⟨b, o, rfl, Nat.lt_of_lt_of_le hlt hb.size, hc.below hb hlt⟩

/-- The variable unicode.CaseRanges holds a slice of the table S. -/
def CV (w : World) (S : List Row) : Prop := ∃ b o c, 0 < w.heap.size ∧ b < w.heap.size ∧ w.cell? ⟨0, 0, none⟩ = some (.slice (some ⟨b, o, none⟩) S.length c) ∧ Cells w b o S
theorem CV.below {w w' : World} {S : List Row} (h : CV w S) (hb : Below w.heap.size w w') : CV w' S := by
  obtain ⟨b, o, c, hg, hlt, h0, hc⟩ := h
  exact ⟨b, o, c, Nat.lt_of_lt_of_le hg hb.size, Nat.lt_of_lt_of_le hlt hb.size, (hb.cell (p := ⟨0, 0, none⟩) hg).trans h0, hc.below hb hlt⟩
def TabOk (T : List Row) : Prop := T.length ≤ 1000000000 ∧ ∀ i, i < T.length → 0 ≤ (T.getD i z5).lo ∧ (T.getD i z5).lo < 2147483648 ∧ 0 ≤ (T.getD i z5).hi ∧ (T.getD i z5).hi < 2147483647
theorem Srt.tab {T : List Row} (h : Srt T) : TabOk T := ⟨by have := srt_length h; omega, fun i hi => by
  obtain ⟨h1, h2, h3⟩ := srt_ok h hi
  omega⟩
theorem below_drewN {B : Nat} {a w : World} (h : Below B a w) : ∀ n, Below B a (w.drewN n) := fun _ => ⟨h.os, h.tape, h.output, h.size, h.block⟩
theorem ret_int {k : IntKind} {a b : Int} (h : a = b) : Ending.returned (.int k a) = .returned (.int k b) := by rw [h]
end Go.Proofs.YtfcalmjojmfooaaDoor
