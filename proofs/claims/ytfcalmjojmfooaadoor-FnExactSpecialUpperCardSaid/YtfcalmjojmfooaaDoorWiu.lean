/-
  THE WITNESS's WORLD once more, for the rows of two arguments.
-/
import Derived.Test.YtfcalmjojmfooaaDoorWit
namespace Go.Proofs.YtfcalmjojmfooaaDoor
set_option maxRecDepth 100000
theorem wit_shaped2 (os : Os) : ((World.laidAll Tryd.prog os lay).forCall (fun _ _ => 0) ⟨#[], #[.slice none 0 0, .int .i32 0], []⟩).Shaped Tryd.prog := World.shaped_of_ZipB (by kernel_rfl) (by kernel_rfl)
theorem wit_laid2 (os : Os) : laidMetH Tryd.prog lay ((World.laidAll Tryd.prog os lay).forCall (fun _ _ => 0) ⟨#[], #[.slice none 0 0, .int .i32 0], []⟩).memory := by
  rw [MakeChecks.laidMetH_plain _ _ _ lay_plain]
  exact laidMet_laidAll _ (by kernel_rfl) (by kernel_rfl)
end Go.Proofs.YtfcalmjojmfooaaDoor
