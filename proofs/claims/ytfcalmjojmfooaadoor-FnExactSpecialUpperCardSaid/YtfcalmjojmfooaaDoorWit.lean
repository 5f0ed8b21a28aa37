/-
  THE WITNESS's WORLD: the settled world with the pinned table laid. The same for all rows of this seat.
-/
import Derived.Test.YtfcalmjojmfooaaDoorRows
import Derived.ProofKit
import Derived.Lay
import Derived.MakeChecks
namespace Go.Proofs.YtfcalmjojmfooaaDoor
set_option maxRecDepth 100000
def lay : List (String × DataW Unit) := [("unicode.CaseRanges", Rows.laid_unicode_CaseRanges)]
theorem wit_shaped (os : Os) : ((World.laidAll Tryd.prog os lay).forCall (fun _ _ => 0) ⟨#[], #[.slice none 0 0], []⟩).Shaped Tryd.prog := World.shaped_of_ZipB (by kernel_rfl) (by kernel_rfl)
theorem wit_laid (os : Os) : laidMetH Tryd.prog lay ((World.laidAll Tryd.prog os lay).forCall (fun _ _ => 0) ⟨#[], #[.slice none 0 0], []⟩).memory := by
  rw [MakeChecks.laidMetH_plain _ _ _ (by kernel_rfl)]
  exact laidMet_laidAll _ (by kernel_rfl) (by kernel_rfl)
theorem lay_plain : (lay.all fun x => x.2.handleName?.isNone) = true := by kernel_rfl
end Go.Proofs.YtfcalmjojmfooaaDoor
