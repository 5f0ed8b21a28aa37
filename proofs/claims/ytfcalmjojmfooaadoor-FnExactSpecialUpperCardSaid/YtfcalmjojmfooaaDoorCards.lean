/-
  DERIVED. GIVEN WITH THE SEED: THE CARDS: each row of YtfcalmjojmfooaaDoorRows.lean that lists a variable, with what it lists TIED to the program's text (the seventh form; the later family's looks); each row that meets fmt, with fmt's text TOLD by the authors' own Lean function (tested against real Go, not proved from fmt's source: count such statements apart). THE CARD IS WHAT COUNTS. Prove the row's statement (the work); the ties are given (YtfcalmjojmfooaaDoorTie.lean); close each card by the builder's one call (the guide's Derived/Test/ToyasCard.lean, 'card_holds'). Laid BY PROGRAM, IN A SANDBOX (cutbox-door.mjs). By AI agents, Wed Nov 11 2026. No macro, syntax, notation, axiom, sorry.
-/
import Derived.Test.YtfcalmjojmfooaaDoorRows
import GoSem.ClaimSeven
namespace Go.Proofs.YtfcalmjojmfooaaDoor
namespace Rows

/-- THE TIED CARD OF 'laws.FnSpecialUpperCut'. -/
def fnSpecialUpperCutCard : Claim7 := { stood := { row := fnSpecialUpperCutRow, standIns := [], harness := (true, "a62db640dfba62da92e66dd4cf4f5223b87909e95dd3a796c90ec6f54a5ecf1c"), looks := false }, kinds := [], alts := [], laidByText := true, laidKinds := [.pinned], laidTests := true, laidLooks := .later }
def FnSpecialUpperCutCardSaid : Prop := Claim7.holds Tryd.pinned (.plain (OpenSpec.ofChange fnSpecialUpperCutSpec)) fnSpecialUpperCutCard

/-- THE TIED CARD OF 'laws.FnSpecialUpperSingles'. -/
def fnSpecialUpperSinglesCard : Claim7 := { stood := { row := fnSpecialUpperSinglesRow, standIns := [], harness := (true, "a62db640dfba62da92e66dd4cf4f5223b87909e95dd3a796c90ec6f54a5ecf1c"), looks := false }, kinds := [], alts := [], laidByText := true, laidKinds := [.pinned], laidTests := true, laidLooks := .later }
def FnSpecialUpperSinglesCardSaid : Prop := Claim7.holds Tryd.pinned (.plain (OpenSpec.ofChange fnSpecialUpperSinglesSpec)) fnSpecialUpperSinglesCard

/-- THE TIED CARD OF 'laws.FnSpecialUpperWithout'. -/
def fnSpecialUpperWithoutCard : Claim7 := { stood := { row := fnSpecialUpperWithoutRow, standIns := [], harness := (true, "a62db640dfba62da92e66dd4cf4f5223b87909e95dd3a796c90ec6f54a5ecf1c"), looks := false }, kinds := [], alts := [], laidByText := true, laidKinds := [.pinned], laidTests := true, laidLooks := .later }
def FnSpecialUpperWithoutCardSaid : Prop := Claim7.holds Tryd.pinned (.plain (OpenSpec.ofChange fnSpecialUpperWithoutSpec)) fnSpecialUpperWithoutCard

/-- THE TIED CARD OF 'laws.FnExactSpecialLower'. -/
def fnExactSpecialLowerCard : Claim7 := { stood := { row := fnExactSpecialLowerRow, standIns := [], harness := (true, "a62db640dfba62da92e66dd4cf4f5223b87909e95dd3a796c90ec6f54a5ecf1c"), looks := false }, kinds := [], alts := [], laidByText := true, laidKinds := [.pinned], laidTests := true, laidLooks := .later }
def FnExactSpecialLowerCardSaid : Prop := Claim7.holds Tryd.pinned (.plain (OpenSpec.ofChange fnExactSpecialLowerSpec)) fnExactSpecialLowerCard

/-- THE TIED CARD OF 'laws.FnExactSpecialTitle'. -/
def fnExactSpecialTitleCard : Claim7 := { stood := { row := fnExactSpecialTitleRow, standIns := [], harness := (true, "a62db640dfba62da92e66dd4cf4f5223b87909e95dd3a796c90ec6f54a5ecf1c"), looks := false }, kinds := [], alts := [], laidByText := true, laidKinds := [.pinned], laidTests := true, laidLooks := .later }
def FnExactSpecialTitleCardSaid : Prop := Claim7.holds Tryd.pinned (.plain (OpenSpec.ofChange fnExactSpecialTitleSpec)) fnExactSpecialTitleCard

/-- THE TIED CARD OF 'laws.FnExactSpecialUpper'. -/
def fnExactSpecialUpperCard : Claim7 := { stood := { row := fnExactSpecialUpperRow, standIns := [], harness := (true, "a62db640dfba62da92e66dd4cf4f5223b87909e95dd3a796c90ec6f54a5ecf1c"), looks := false }, kinds := [], alts := [], laidByText := true, laidKinds := [.pinned], laidTests := true, laidLooks := .later }
def FnExactSpecialUpperCardSaid : Prop := Claim7.holds Tryd.pinned (.plain (OpenSpec.ofChange fnExactSpecialUpperSpec)) fnExactSpecialUpperCard

/-- THE TIED CARD OF 'laws.FnSpecialLowerElse'. -/
def fnSpecialLowerElseCard : Claim7 := { stood := { row := fnSpecialLowerElseRow, standIns := [], harness := (true, "a62db640dfba62da92e66dd4cf4f5223b87909e95dd3a796c90ec6f54a5ecf1c"), looks := false }, kinds := [], alts := [], laidByText := true, laidKinds := [.pinned], laidTests := true, laidLooks := .later }
def FnSpecialLowerElseCardSaid : Prop := Claim7.holds Tryd.pinned (.plain (OpenSpec.ofChange fnSpecialLowerElseSpec)) fnSpecialLowerElseCard

/-- THE TIED CARD OF 'laws.FnSpecialLowerNone'. -/
def fnSpecialLowerNoneCard : Claim7 := { stood := { row := fnSpecialLowerNoneRow, standIns := [], harness := (true, "a62db640dfba62da92e66dd4cf4f5223b87909e95dd3a796c90ec6f54a5ecf1c"), looks := false }, kinds := [], alts := [], laidByText := true, laidKinds := [.pinned], laidTests := true, laidLooks := .later }
def FnSpecialLowerNoneCardSaid : Prop := Claim7.holds Tryd.pinned (.plain (OpenSpec.ofChange fnSpecialLowerNoneSpec)) fnSpecialLowerNoneCard

/-- THE TIED CARD OF 'laws.FnSpecialLowerStay'. -/
def fnSpecialLowerStayCard : Claim7 := { stood := { row := fnSpecialLowerStayRow, standIns := [], harness := (true, "a62db640dfba62da92e66dd4cf4f5223b87909e95dd3a796c90ec6f54a5ecf1c"), looks := false }, kinds := [], alts := [], laidByText := true, laidKinds := [.pinned], laidTests := true, laidLooks := .later }
def FnSpecialLowerStayCardSaid : Prop := Claim7.holds Tryd.pinned (.plain (OpenSpec.ofChange fnSpecialLowerStaySpec)) fnSpecialLowerStayCard

/-- THE TIED CARD OF 'laws.FnSpecialTitleElse'. -/
def fnSpecialTitleElseCard : Claim7 := { stood := { row := fnSpecialTitleElseRow, standIns := [], harness := (true, "a62db640dfba62da92e66dd4cf4f5223b87909e95dd3a796c90ec6f54a5ecf1c"), looks := false }, kinds := [], alts := [], laidByText := true, laidKinds := [.pinned], laidTests := true, laidLooks := .later }
def FnSpecialTitleElseCardSaid : Prop := Claim7.holds Tryd.pinned (.plain (OpenSpec.ofChange fnSpecialTitleElseSpec)) fnSpecialTitleElseCard

/-- THE TIED CARD OF 'laws.FnSpecialTitleNone'. -/
def fnSpecialTitleNoneCard : Claim7 := { stood := { row := fnSpecialTitleNoneRow, standIns := [], harness := (true, "a62db640dfba62da92e66dd4cf4f5223b87909e95dd3a796c90ec6f54a5ecf1c"), looks := false }, kinds := [], alts := [], laidByText := true, laidKinds := [.pinned], laidTests := true, laidLooks := .later }
def FnSpecialTitleNoneCardSaid : Prop := Claim7.holds Tryd.pinned (.plain (OpenSpec.ofChange fnSpecialTitleNoneSpec)) fnSpecialTitleNoneCard

/-- THE TIED CARD OF 'laws.FnSpecialTitleStay'. -/
def fnSpecialTitleStayCard : Claim7 := { stood := { row := fnSpecialTitleStayRow, standIns := [], harness := (true, "a62db640dfba62da92e66dd4cf4f5223b87909e95dd3a796c90ec6f54a5ecf1c"), looks := false }, kinds := [], alts := [], laidByText := true, laidKinds := [.pinned], laidTests := true, laidLooks := .later }
def FnSpecialTitleStayCardSaid : Prop := Claim7.holds Tryd.pinned (.plain (OpenSpec.ofChange fnSpecialTitleStaySpec)) fnSpecialTitleStayCard

/-- THE SECOND FORM's CARD OF 'laws.FnSpecialUpperCut'. -/
def fnSpecialUpperCutUptoCard : Claim7 := { stood := { row := fnSpecialUpperCutUptoRow, standIns := [], harness := (true, "a62db640dfba62da92e66dd4cf4f5223b87909e95dd3a796c90ec6f54a5ecf1c"), looks := false }, kinds := [], alts := [], laidByText := true, laidKinds := [.pinned], laidTests := true, laidLooks := .later }
def FnSpecialUpperCutUptoCardSaid : Prop := Claim7.holds Tryd.pinned (.plain (OpenSpec.upto fnSpecialUpperCutSpec)) fnSpecialUpperCutUptoCard

/-- THE SECOND FORM's CARD OF 'laws.FnSpecialUpperSingles'. -/
def fnSpecialUpperSinglesUptoCard : Claim7 := { stood := { row := fnSpecialUpperSinglesUptoRow, standIns := [], harness := (true, "a62db640dfba62da92e66dd4cf4f5223b87909e95dd3a796c90ec6f54a5ecf1c"), looks := false }, kinds := [], alts := [], laidByText := true, laidKinds := [.pinned], laidTests := true, laidLooks := .later }
def FnSpecialUpperSinglesUptoCardSaid : Prop := Claim7.holds Tryd.pinned (.plain (OpenSpec.upto fnSpecialUpperSinglesSpec)) fnSpecialUpperSinglesUptoCard

/-- THE SECOND FORM's CARD OF 'laws.FnSpecialUpperWithout'. -/
def fnSpecialUpperWithoutUptoCard : Claim7 := { stood := { row := fnSpecialUpperWithoutUptoRow, standIns := [], harness := (true, "a62db640dfba62da92e66dd4cf4f5223b87909e95dd3a796c90ec6f54a5ecf1c"), looks := false }, kinds := [], alts := [], laidByText := true, laidKinds := [.pinned], laidTests := true, laidLooks := .later }
def FnSpecialUpperWithoutUptoCardSaid : Prop := Claim7.holds Tryd.pinned (.plain (OpenSpec.upto fnSpecialUpperWithoutSpec)) fnSpecialUpperWithoutUptoCard

/-- THE SECOND FORM's CARD OF 'laws.FnExactSpecialLower'. -/
def fnExactSpecialLowerUptoCard : Claim7 := { stood := { row := fnExactSpecialLowerUptoRow, standIns := [], harness := (true, "a62db640dfba62da92e66dd4cf4f5223b87909e95dd3a796c90ec6f54a5ecf1c"), looks := false }, kinds := [], alts := [], laidByText := true, laidKinds := [.pinned], laidTests := true, laidLooks := .later }
def FnExactSpecialLowerUptoCardSaid : Prop := Claim7.holds Tryd.pinned (.plain (OpenSpec.upto fnExactSpecialLowerSpec)) fnExactSpecialLowerUptoCard

/-- THE SECOND FORM's CARD OF 'laws.FnExactSpecialTitle'. -/
def fnExactSpecialTitleUptoCard : Claim7 := { stood := { row := fnExactSpecialTitleUptoRow, standIns := [], harness := (true, "a62db640dfba62da92e66dd4cf4f5223b87909e95dd3a796c90ec6f54a5ecf1c"), looks := false }, kinds := [], alts := [], laidByText := true, laidKinds := [.pinned], laidTests := true, laidLooks := .later }
def FnExactSpecialTitleUptoCardSaid : Prop := Claim7.holds Tryd.pinned (.plain (OpenSpec.upto fnExactSpecialTitleSpec)) fnExactSpecialTitleUptoCard

/-- THE SECOND FORM's CARD OF 'laws.FnExactSpecialUpper'. -/
def fnExactSpecialUpperUptoCard : Claim7 := { stood := { row := fnExactSpecialUpperUptoRow, standIns := [], harness := (true, "a62db640dfba62da92e66dd4cf4f5223b87909e95dd3a796c90ec6f54a5ecf1c"), looks := false }, kinds := [], alts := [], laidByText := true, laidKinds := [.pinned], laidTests := true, laidLooks := .later }
def FnExactSpecialUpperUptoCardSaid : Prop := Claim7.holds Tryd.pinned (.plain (OpenSpec.upto fnExactSpecialUpperSpec)) fnExactSpecialUpperUptoCard

/-- THE SECOND FORM's CARD OF 'laws.FnSpecialLowerElse'. -/
def fnSpecialLowerElseUptoCard : Claim7 := { stood := { row := fnSpecialLowerElseUptoRow, standIns := [], harness := (true, "a62db640dfba62da92e66dd4cf4f5223b87909e95dd3a796c90ec6f54a5ecf1c"), looks := false }, kinds := [], alts := [], laidByText := true, laidKinds := [.pinned], laidTests := true, laidLooks := .later }
def FnSpecialLowerElseUptoCardSaid : Prop := Claim7.holds Tryd.pinned (.plain (OpenSpec.upto fnSpecialLowerElseSpec)) fnSpecialLowerElseUptoCard

/-- THE SECOND FORM's CARD OF 'laws.FnSpecialLowerNone'. -/
def fnSpecialLowerNoneUptoCard : Claim7 := { stood := { row := fnSpecialLowerNoneUptoRow, standIns := [], harness := (true, "a62db640dfba62da92e66dd4cf4f5223b87909e95dd3a796c90ec6f54a5ecf1c"), looks := false }, kinds := [], alts := [], laidByText := true, laidKinds := [.pinned], laidTests := true, laidLooks := .later }
def FnSpecialLowerNoneUptoCardSaid : Prop := Claim7.holds Tryd.pinned (.plain (OpenSpec.upto fnSpecialLowerNoneSpec)) fnSpecialLowerNoneUptoCard

/-- THE SECOND FORM's CARD OF 'laws.FnSpecialLowerStay'. -/
def fnSpecialLowerStayUptoCard : Claim7 := { stood := { row := fnSpecialLowerStayUptoRow, standIns := [], harness := (true, "a62db640dfba62da92e66dd4cf4f5223b87909e95dd3a796c90ec6f54a5ecf1c"), looks := false }, kinds := [], alts := [], laidByText := true, laidKinds := [.pinned], laidTests := true, laidLooks := .later }
def FnSpecialLowerStayUptoCardSaid : Prop := Claim7.holds Tryd.pinned (.plain (OpenSpec.upto fnSpecialLowerStaySpec)) fnSpecialLowerStayUptoCard

/-- THE SECOND FORM's CARD OF 'laws.FnSpecialTitleElse'. -/
def fnSpecialTitleElseUptoCard : Claim7 := { stood := { row := fnSpecialTitleElseUptoRow, standIns := [], harness := (true, "a62db640dfba62da92e66dd4cf4f5223b87909e95dd3a796c90ec6f54a5ecf1c"), looks := false }, kinds := [], alts := [], laidByText := true, laidKinds := [.pinned], laidTests := true, laidLooks := .later }
def FnSpecialTitleElseUptoCardSaid : Prop := Claim7.holds Tryd.pinned (.plain (OpenSpec.upto fnSpecialTitleElseSpec)) fnSpecialTitleElseUptoCard

/-- THE SECOND FORM's CARD OF 'laws.FnSpecialTitleNone'. -/
def fnSpecialTitleNoneUptoCard : Claim7 := { stood := { row := fnSpecialTitleNoneUptoRow, standIns := [], harness := (true, "a62db640dfba62da92e66dd4cf4f5223b87909e95dd3a796c90ec6f54a5ecf1c"), looks := false }, kinds := [], alts := [], laidByText := true, laidKinds := [.pinned], laidTests := true, laidLooks := .later }
def FnSpecialTitleNoneUptoCardSaid : Prop := Claim7.holds Tryd.pinned (.plain (OpenSpec.upto fnSpecialTitleNoneSpec)) fnSpecialTitleNoneUptoCard

/-- THE SECOND FORM's CARD OF 'laws.FnSpecialTitleStay'. -/
def fnSpecialTitleStayUptoCard : Claim7 := { stood := { row := fnSpecialTitleStayUptoRow, standIns := [], harness := (true, "a62db640dfba62da92e66dd4cf4f5223b87909e95dd3a796c90ec6f54a5ecf1c"), looks := false }, kinds := [], alts := [], laidByText := true, laidKinds := [.pinned], laidTests := true, laidLooks := .later }
def FnSpecialTitleStayUptoCardSaid : Prop := Claim7.holds Tryd.pinned (.plain (OpenSpec.upto fnSpecialTitleStaySpec)) fnSpecialTitleStayUptoCard
end Rows
end Go.Proofs.YtfcalmjojmfooaaDoor
