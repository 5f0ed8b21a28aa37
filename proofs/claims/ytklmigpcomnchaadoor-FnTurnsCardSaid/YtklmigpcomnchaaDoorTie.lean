/-
  DERIVED. GIVEN WITH THE SEED: THE PROGRAM's TIES (one call each: nine closed facts by the kernel) AND EACH ROW's TIE, after the 31st guide's Derived/Test/Toyas{Tie, Card}.lean. No idea stands in it: it is a product of the set-up. Laid BY PROGRAM, IN A SANDBOX (cutbox-door.mjs). By AI agents, Wed Nov 11 2026. No macro, syntax, notation, axiom, sorry.
-/
import Derived.Test.YtklmigpcomnchaaDoorRows
import Derived.LaidByTextLater
import Derived.SevenTiedAt
import Derived.LaidSub
import Derived.LaidOnce
namespace Go.Proofs.YtklmigpcomnchaaDoor
open Go
set_option maxRecDepth 100000
theorem seatTie1 : Tryd.prog.laidByTextLater [] [] true :=
  Program.laidByTextLater_by_one 11 8 2 (by kernel_rfl) (by kernel_rfl) (by kernel_rfl) (by kernel_rfl) (by kernel_rfl) (by kernel_rfl) (fun _ _ => by kernel_rfl)
theorem pin_laid_unicode_CaseRanges : Tryd.pinned.checked.prog.pinnedFits "unicode.CaseRanges" = true := by kernel_rfl
theorem noOwnUnsafe : Tryd.pinned.checked.prog.headLifts.contains "ownunsafe" = false := by kernel_rfl
theorem fits1 : Tryd.pinned.checked.prog.listedFits [("unicode.CaseRanges", Rows.laid_unicode_CaseRanges)] = true := by
  unfold Program.listedFits
  rw [noOwnUnsafe]
  kernel_rfl
theorem tie : Tryd.prog.laidByTextLater [] [] true :=
  Program.laidByTextLater.sub seatTie1 [] (by kernel_rfl) (by kernel_rfl)
theorem fnSpecialUpperElse_row_tie : Rows.fnSpecialUpperElseRow.laidByTextAt .later Tryd.pinned [.pinned] true :=
  OpenClaim.laidByTextAt_pinned rfl rfl tie rfl rfl rfl rfl (fun y hy _e => by
    simp only [Rows.fnSpecialUpperElseRow, List.zip_cons_cons, List.zip_nil_right, List.mem_cons, List.mem_nil_iff, or_false] at hy
    rcases hy with rfl
    · exact ⟨pin_laid_unicode_CaseRanges, by kernel_rfl⟩) fits1
theorem fnSpecialUpperNone_row_tie : Rows.fnSpecialUpperNoneRow.laidByTextAt .later Tryd.pinned [.pinned] true :=
  OpenClaim.laidByTextAt_pinned rfl rfl tie rfl rfl rfl rfl (fun y hy _e => by
    simp only [Rows.fnSpecialUpperNoneRow, List.zip_cons_cons, List.zip_nil_right, List.mem_cons, List.mem_nil_iff, or_false] at hy
    rcases hy with rfl
    · exact ⟨pin_laid_unicode_CaseRanges, by kernel_rfl⟩) fits1
theorem fnSpecialUpperStay_row_tie : Rows.fnSpecialUpperStayRow.laidByTextAt .later Tryd.pinned [.pinned] true :=
  OpenClaim.laidByTextAt_pinned rfl rfl tie rfl rfl rfl rfl (fun y hy _e => by
    simp only [Rows.fnSpecialUpperStayRow, List.zip_cons_cons, List.zip_nil_right, List.mem_cons, List.mem_nil_iff, or_false] at hy
    rcases hy with rfl
    · exact ⟨pin_laid_unicode_CaseRanges, by kernel_rfl⟩) fits1
theorem fnTurns_row_tie : Rows.fnTurnsRow.laidByTextAt .later Tryd.pinned [.pinned] true :=
  OpenClaim.laidByTextAt_pinned rfl rfl tie rfl rfl rfl rfl (fun y hy _e => by
    simp only [Rows.fnTurnsRow, List.zip_cons_cons, List.zip_nil_right, List.mem_cons, List.mem_nil_iff, or_false] at hy
    rcases hy with rfl
    · exact ⟨pin_laid_unicode_CaseRanges, by kernel_rfl⟩) fits1
theorem fnSpecialUpperElseUpto_row_tie : Rows.fnSpecialUpperElseUptoRow.laidByTextAt .later Tryd.pinned [.pinned] true :=
  OpenClaim.laidByTextAt_pinned rfl rfl tie rfl rfl rfl rfl (fun y hy _e => by
    simp only [Rows.fnSpecialUpperElseUptoRow, List.zip_cons_cons, List.zip_nil_right, List.mem_cons, List.mem_nil_iff, or_false] at hy
    rcases hy with rfl
    · exact ⟨pin_laid_unicode_CaseRanges, by kernel_rfl⟩) fits1
theorem fnSpecialUpperNoneUpto_row_tie : Rows.fnSpecialUpperNoneUptoRow.laidByTextAt .later Tryd.pinned [.pinned] true :=
  OpenClaim.laidByTextAt_pinned rfl rfl tie rfl rfl rfl rfl (fun y hy _e => by
    simp only [Rows.fnSpecialUpperNoneUptoRow, List.zip_cons_cons, List.zip_nil_right, List.mem_cons, List.mem_nil_iff, or_false] at hy
    rcases hy with rfl
    · exact ⟨pin_laid_unicode_CaseRanges, by kernel_rfl⟩) fits1
theorem fnSpecialUpperStayUpto_row_tie : Rows.fnSpecialUpperStayUptoRow.laidByTextAt .later Tryd.pinned [.pinned] true :=
  OpenClaim.laidByTextAt_pinned rfl rfl tie rfl rfl rfl rfl (fun y hy _e => by
    simp only [Rows.fnSpecialUpperStayUptoRow, List.zip_cons_cons, List.zip_nil_right, List.mem_cons, List.mem_nil_iff, or_false] at hy
    rcases hy with rfl
    · exact ⟨pin_laid_unicode_CaseRanges, by kernel_rfl⟩) fits1
theorem fnTurnsUpto_row_tie : Rows.fnTurnsUptoRow.laidByTextAt .later Tryd.pinned [.pinned] true :=
  OpenClaim.laidByTextAt_pinned rfl rfl tie rfl rfl rfl rfl (fun y hy _e => by
    simp only [Rows.fnTurnsUptoRow, List.zip_cons_cons, List.zip_nil_right, List.mem_cons, List.mem_nil_iff, or_false] at hy
    rcases hy with rfl
    · exact ⟨pin_laid_unicode_CaseRanges, by kernel_rfl⟩) fits1
end Go.Proofs.YtklmigpcomnchaaDoor
