/-
  DERIVED. GIVEN WITH THE SEED: THE CARDS: each row of YtgkjnoahphlgaaaDoorRows.lean that lists a variable, with what it lists TIED to the program's text (the seventh form; the later family's looks); each row that meets fmt, with fmt's text TOLD by the authors' own Lean function (tested against real Go, not proved from fmt's source: count such statements apart). THE CARD IS WHAT COUNTS. Prove the row's statement (the work); the ties are given (YtgkjnoahphlgaaaDoorTie.lean); close each card by the builder's one call (the guide's Derived/Test/ToyasCard.lean, 'card_holds'). Laid BY PROGRAM, IN A SANDBOX (cutbox-door.mjs). By AI agents, Wed Nov 11 2026. No macro, syntax, notation, axiom, sorry.
-/
import Derived.Test.YtgkjnoahphlgaaaDoorRows
import GoSem.ClaimSeven
namespace Go.Proofs.YtgkjnoahphlgaaaDoor
namespace Rows

/-- THE TIED CARD OF 'laws.FnSpecialLower'. -/
def fnSpecialLowerCard : Claim7 := { stood := { row := fnSpecialLowerRow, standIns := [], harness := (true, "d4ce761cfa1f0a029ead0ba9207fe67418bf0b28b73238c6bee1dc811b631a45"), looks := false }, kinds := [], alts := [], laidByText := true, laidKinds := [.pinned], laidTests := true, laidLooks := .later }
def FnSpecialLowerCardSaid : Prop := Claim7.holds Tryd.pinned (.plain (OpenSpec.ofChange fnSpecialLowerSpec)) fnSpecialLowerCard

/-- THE TIED CARD OF 'laws.FnSpecialLowerCut'. -/
def fnSpecialLowerCutCard : Claim7 := { stood := { row := fnSpecialLowerCutRow, standIns := [], harness := (true, "d4ce761cfa1f0a029ead0ba9207fe67418bf0b28b73238c6bee1dc811b631a45"), looks := false }, kinds := [], alts := [], laidByText := true, laidKinds := [.pinned], laidTests := true, laidLooks := .later }
def FnSpecialLowerCutCardSaid : Prop := Claim7.holds Tryd.pinned (.plain (OpenSpec.ofChange fnSpecialLowerCutSpec)) fnSpecialLowerCutCard

/-- THE TIED CARD OF 'laws.FnSpecialLowerSingles'. -/
def fnSpecialLowerSinglesCard : Claim7 := { stood := { row := fnSpecialLowerSinglesRow, standIns := [], harness := (true, "d4ce761cfa1f0a029ead0ba9207fe67418bf0b28b73238c6bee1dc811b631a45"), looks := false }, kinds := [], alts := [], laidByText := true, laidKinds := [.pinned], laidTests := true, laidLooks := .later }
def FnSpecialLowerSinglesCardSaid : Prop := Claim7.holds Tryd.pinned (.plain (OpenSpec.ofChange fnSpecialLowerSinglesSpec)) fnSpecialLowerSinglesCard

/-- THE TIED CARD OF 'laws.FnTurnsTitle'. -/
def fnTurnsTitleCard : Claim7 := { stood := { row := fnTurnsTitleRow, standIns := [], harness := (true, "d4ce761cfa1f0a029ead0ba9207fe67418bf0b28b73238c6bee1dc811b631a45"), looks := false }, kinds := [], alts := [], laidByText := true, laidKinds := [.pinned], laidTests := true, laidLooks := .later }
def FnTurnsTitleCardSaid : Prop := Claim7.holds Tryd.pinned (.plain (OpenSpec.ofChange fnTurnsTitleSpec)) fnTurnsTitleCard

/-- THE TIED CARD OF 'laws.FnSpecialLowerWithout'. -/
def fnSpecialLowerWithoutCard : Claim7 := { stood := { row := fnSpecialLowerWithoutRow, standIns := [], harness := (true, "d4ce761cfa1f0a029ead0ba9207fe67418bf0b28b73238c6bee1dc811b631a45"), looks := false }, kinds := [], alts := [], laidByText := true, laidKinds := [.pinned], laidTests := true, laidLooks := .later }
def FnSpecialLowerWithoutCardSaid : Prop := Claim7.holds Tryd.pinned (.plain (OpenSpec.ofChange fnSpecialLowerWithoutSpec)) fnSpecialLowerWithoutCard

/-- THE TIED CARD OF 'laws.FnSpecialTitle'. -/
def fnSpecialTitleCard : Claim7 := { stood := { row := fnSpecialTitleRow, standIns := [], harness := (true, "d4ce761cfa1f0a029ead0ba9207fe67418bf0b28b73238c6bee1dc811b631a45"), looks := false }, kinds := [], alts := [], laidByText := true, laidKinds := [.pinned], laidTests := true, laidLooks := .later }
def FnSpecialTitleCardSaid : Prop := Claim7.holds Tryd.pinned (.plain (OpenSpec.ofChange fnSpecialTitleSpec)) fnSpecialTitleCard

/-- THE TIED CARD OF 'laws.FnDeltas'. -/
def fnDeltasCard : Claim7 := { stood := { row := fnDeltasRow, standIns := [], harness := (true, "d4ce761cfa1f0a029ead0ba9207fe67418bf0b28b73238c6bee1dc811b631a45"), looks := false }, kinds := [], alts := [], laidByText := true, laidKinds := [.pinned], laidTests := true, laidLooks := .later }
def FnDeltasCardSaid : Prop := Claim7.holds Tryd.pinned (.plain (OpenSpec.ofChange fnDeltasSpec)) fnDeltasCard

/-- THE TIED CARD OF 'laws.FnSpecialTitleCut'. -/
def fnSpecialTitleCutCard : Claim7 := { stood := { row := fnSpecialTitleCutRow, standIns := [], harness := (true, "d4ce761cfa1f0a029ead0ba9207fe67418bf0b28b73238c6bee1dc811b631a45"), looks := false }, kinds := [], alts := [], laidByText := true, laidKinds := [.pinned], laidTests := true, laidLooks := .later }
def FnSpecialTitleCutCardSaid : Prop := Claim7.holds Tryd.pinned (.plain (OpenSpec.ofChange fnSpecialTitleCutSpec)) fnSpecialTitleCutCard

/-- THE TIED CARD OF 'laws.FnSpecialTitleSingles'. -/
def fnSpecialTitleSinglesCard : Claim7 := { stood := { row := fnSpecialTitleSinglesRow, standIns := [], harness := (true, "d4ce761cfa1f0a029ead0ba9207fe67418bf0b28b73238c6bee1dc811b631a45"), looks := false }, kinds := [], alts := [], laidByText := true, laidKinds := [.pinned], laidTests := true, laidLooks := .later }
def FnSpecialTitleSinglesCardSaid : Prop := Claim7.holds Tryd.pinned (.plain (OpenSpec.ofChange fnSpecialTitleSinglesSpec)) fnSpecialTitleSinglesCard

/-- THE TIED CARD OF 'laws.FnSpecialTitleWithout'. -/
def fnSpecialTitleWithoutCard : Claim7 := { stood := { row := fnSpecialTitleWithoutRow, standIns := [], harness := (true, "d4ce761cfa1f0a029ead0ba9207fe67418bf0b28b73238c6bee1dc811b631a45"), looks := false }, kinds := [], alts := [], laidByText := true, laidKinds := [.pinned], laidTests := true, laidLooks := .later }
def FnSpecialTitleWithoutCardSaid : Prop := Claim7.holds Tryd.pinned (.plain (OpenSpec.ofChange fnSpecialTitleWithoutSpec)) fnSpecialTitleWithoutCard

/-- THE TIED CARD OF 'laws.FnTurkish'. -/
def fnTurkishCard : Claim7 := { stood := { row := fnTurkishRow, standIns := [], harness := (true, "d4ce761cfa1f0a029ead0ba9207fe67418bf0b28b73238c6bee1dc811b631a45"), looks := false }, kinds := [], alts := [], laidByText := true, laidKinds := [.pinned], laidTests := true, laidLooks := .later }
def FnTurkishCardSaid : Prop := Claim7.holds Tryd.pinned (.plain (OpenSpec.ofChange fnTurkishSpec)) fnTurkishCard

/-- THE TIED CARD OF 'laws.FnSpecialUpper'. -/
def fnSpecialUpperCard : Claim7 := { stood := { row := fnSpecialUpperRow, standIns := [], harness := (true, "d4ce761cfa1f0a029ead0ba9207fe67418bf0b28b73238c6bee1dc811b631a45"), looks := false }, kinds := [], alts := [], laidByText := true, laidKinds := [.pinned], laidTests := true, laidLooks := .later }
def FnSpecialUpperCardSaid : Prop := Claim7.holds Tryd.pinned (.plain (OpenSpec.ofChange fnSpecialUpperSpec)) fnSpecialUpperCard

/-- THE SECOND FORM's CARD OF 'laws.FnSpecialLower'. -/
def fnSpecialLowerUptoCard : Claim7 := { stood := { row := fnSpecialLowerUptoRow, standIns := [], harness := (true, "d4ce761cfa1f0a029ead0ba9207fe67418bf0b28b73238c6bee1dc811b631a45"), looks := false }, kinds := [], alts := [], laidByText := true, laidKinds := [.pinned], laidTests := true, laidLooks := .later }
def FnSpecialLowerUptoCardSaid : Prop := Claim7.holds Tryd.pinned (.plain (OpenSpec.upto fnSpecialLowerSpec)) fnSpecialLowerUptoCard

/-- THE SECOND FORM's CARD OF 'laws.FnSpecialLowerCut'. -/
def fnSpecialLowerCutUptoCard : Claim7 := { stood := { row := fnSpecialLowerCutUptoRow, standIns := [], harness := (true, "d4ce761cfa1f0a029ead0ba9207fe67418bf0b28b73238c6bee1dc811b631a45"), looks := false }, kinds := [], alts := [], laidByText := true, laidKinds := [.pinned], laidTests := true, laidLooks := .later }
def FnSpecialLowerCutUptoCardSaid : Prop := Claim7.holds Tryd.pinned (.plain (OpenSpec.upto fnSpecialLowerCutSpec)) fnSpecialLowerCutUptoCard

/-- THE SECOND FORM's CARD OF 'laws.FnSpecialLowerSingles'. -/
def fnSpecialLowerSinglesUptoCard : Claim7 := { stood := { row := fnSpecialLowerSinglesUptoRow, standIns := [], harness := (true, "d4ce761cfa1f0a029ead0ba9207fe67418bf0b28b73238c6bee1dc811b631a45"), looks := false }, kinds := [], alts := [], laidByText := true, laidKinds := [.pinned], laidTests := true, laidLooks := .later }
def FnSpecialLowerSinglesUptoCardSaid : Prop := Claim7.holds Tryd.pinned (.plain (OpenSpec.upto fnSpecialLowerSinglesSpec)) fnSpecialLowerSinglesUptoCard

/-- THE SECOND FORM's CARD OF 'laws.FnTurnsTitle'. -/
def fnTurnsTitleUptoCard : Claim7 := { stood := { row := fnTurnsTitleUptoRow, standIns := [], harness := (true, "d4ce761cfa1f0a029ead0ba9207fe67418bf0b28b73238c6bee1dc811b631a45"), looks := false }, kinds := [], alts := [], laidByText := true, laidKinds := [.pinned], laidTests := true, laidLooks := .later }
def FnTurnsTitleUptoCardSaid : Prop := Claim7.holds Tryd.pinned (.plain (OpenSpec.upto fnTurnsTitleSpec)) fnTurnsTitleUptoCard

/-- THE SECOND FORM's CARD OF 'laws.FnSpecialLowerWithout'. -/
def fnSpecialLowerWithoutUptoCard : Claim7 := { stood := { row := fnSpecialLowerWithoutUptoRow, standIns := [], harness := (true, "d4ce761cfa1f0a029ead0ba9207fe67418bf0b28b73238c6bee1dc811b631a45"), looks := false }, kinds := [], alts := [], laidByText := true, laidKinds := [.pinned], laidTests := true, laidLooks := .later }
def FnSpecialLowerWithoutUptoCardSaid : Prop := Claim7.holds Tryd.pinned (.plain (OpenSpec.upto fnSpecialLowerWithoutSpec)) fnSpecialLowerWithoutUptoCard

/-- THE SECOND FORM's CARD OF 'laws.FnSpecialTitle'. -/
def fnSpecialTitleUptoCard : Claim7 := { stood := { row := fnSpecialTitleUptoRow, standIns := [], harness := (true, "d4ce761cfa1f0a029ead0ba9207fe67418bf0b28b73238c6bee1dc811b631a45"), looks := false }, kinds := [], alts := [], laidByText := true, laidKinds := [.pinned], laidTests := true, laidLooks := .later }
def FnSpecialTitleUptoCardSaid : Prop := Claim7.holds Tryd.pinned (.plain (OpenSpec.upto fnSpecialTitleSpec)) fnSpecialTitleUptoCard

/-- THE SECOND FORM's CARD OF 'laws.FnDeltas'. -/
def fnDeltasUptoCard : Claim7 := { stood := { row := fnDeltasUptoRow, standIns := [], harness := (true, "d4ce761cfa1f0a029ead0ba9207fe67418bf0b28b73238c6bee1dc811b631a45"), looks := false }, kinds := [], alts := [], laidByText := true, laidKinds := [.pinned], laidTests := true, laidLooks := .later }
def FnDeltasUptoCardSaid : Prop := Claim7.holds Tryd.pinned (.plain (OpenSpec.upto fnDeltasSpec)) fnDeltasUptoCard

/-- THE SECOND FORM's CARD OF 'laws.FnSpecialTitleCut'. -/
def fnSpecialTitleCutUptoCard : Claim7 := { stood := { row := fnSpecialTitleCutUptoRow, standIns := [], harness := (true, "d4ce761cfa1f0a029ead0ba9207fe67418bf0b28b73238c6bee1dc811b631a45"), looks := false }, kinds := [], alts := [], laidByText := true, laidKinds := [.pinned], laidTests := true, laidLooks := .later }
def FnSpecialTitleCutUptoCardSaid : Prop := Claim7.holds Tryd.pinned (.plain (OpenSpec.upto fnSpecialTitleCutSpec)) fnSpecialTitleCutUptoCard

/-- THE SECOND FORM's CARD OF 'laws.FnSpecialTitleSingles'. -/
def fnSpecialTitleSinglesUptoCard : Claim7 := { stood := { row := fnSpecialTitleSinglesUptoRow, standIns := [], harness := (true, "d4ce761cfa1f0a029ead0ba9207fe67418bf0b28b73238c6bee1dc811b631a45"), looks := false }, kinds := [], alts := [], laidByText := true, laidKinds := [.pinned], laidTests := true, laidLooks := .later }
def FnSpecialTitleSinglesUptoCardSaid : Prop := Claim7.holds Tryd.pinned (.plain (OpenSpec.upto fnSpecialTitleSinglesSpec)) fnSpecialTitleSinglesUptoCard

/-- THE SECOND FORM's CARD OF 'laws.FnSpecialTitleWithout'. -/
def fnSpecialTitleWithoutUptoCard : Claim7 := { stood := { row := fnSpecialTitleWithoutUptoRow, standIns := [], harness := (true, "d4ce761cfa1f0a029ead0ba9207fe67418bf0b28b73238c6bee1dc811b631a45"), looks := false }, kinds := [], alts := [], laidByText := true, laidKinds := [.pinned], laidTests := true, laidLooks := .later }
def FnSpecialTitleWithoutUptoCardSaid : Prop := Claim7.holds Tryd.pinned (.plain (OpenSpec.upto fnSpecialTitleWithoutSpec)) fnSpecialTitleWithoutUptoCard

/-- THE SECOND FORM's CARD OF 'laws.FnTurkish'. -/
def fnTurkishUptoCard : Claim7 := { stood := { row := fnTurkishUptoRow, standIns := [], harness := (true, "d4ce761cfa1f0a029ead0ba9207fe67418bf0b28b73238c6bee1dc811b631a45"), looks := false }, kinds := [], alts := [], laidByText := true, laidKinds := [.pinned], laidTests := true, laidLooks := .later }
def FnTurkishUptoCardSaid : Prop := Claim7.holds Tryd.pinned (.plain (OpenSpec.upto fnTurkishSpec)) fnTurkishUptoCard

/-- THE SECOND FORM's CARD OF 'laws.FnSpecialUpper'. -/
def fnSpecialUpperUptoCard : Claim7 := { stood := { row := fnSpecialUpperUptoRow, standIns := [], harness := (true, "d4ce761cfa1f0a029ead0ba9207fe67418bf0b28b73238c6bee1dc811b631a45"), looks := false }, kinds := [], alts := [], laidByText := true, laidKinds := [.pinned], laidTests := true, laidLooks := .later }
def FnSpecialUpperUptoCardSaid : Prop := Claim7.holds Tryd.pinned (.plain (OpenSpec.upto fnSpecialUpperSpec)) fnSpecialUpperUptoCard
end Rows
end Go.Proofs.YtgkjnoahphlgaaaDoor
