/-
  DERIVED. GIVEN WITH THE SEED: THE CARDS: each row of YtklmigpcomnchaaDoorRows.lean that lists a variable, with what it lists TIED to the program's text (the seventh form; the later family's looks); each row that meets fmt, with fmt's text TOLD by the authors' own Lean function (tested against real Go, not proved from fmt's source: count such statements apart). THE CARD IS WHAT COUNTS. Prove the row's statement (the work); the ties are given (YtklmigpcomnchaaDoorTie.lean); close each card by the builder's one call (the guide's Derived/Test/ToyasCard.lean, 'card_holds'). Laid BY PROGRAM, IN A SANDBOX (cutbox-door.mjs). By AI agents, Wed Nov 11 2026. No macro, syntax, notation, axiom, sorry.
-/
import Derived.Test.YtklmigpcomnchaaDoorRows
import GoSem.ClaimSeven
namespace Go.Proofs.YtklmigpcomnchaaDoor
namespace Rows

/-- THE TIED CARD OF 'laws.FnSpecialUpperElse'. -/
def fnSpecialUpperElseCard : Claim7 := { stood := { row := fnSpecialUpperElseRow, standIns := [], harness := (true, "e2ef45d1f470397d3358afeab3adae8aca9a807cdc6385069a01977be4b392c4"), looks := false }, kinds := [], alts := [], laidByText := true, laidKinds := [.pinned], laidTests := true, laidLooks := .later }
def FnSpecialUpperElseCardSaid : Prop := Claim7.holds Tryd.pinned (.plain (OpenSpec.ofChange fnSpecialUpperElseSpec)) fnSpecialUpperElseCard

/-- THE TIED CARD OF 'laws.FnSpecialUpperNone'. -/
def fnSpecialUpperNoneCard : Claim7 := { stood := { row := fnSpecialUpperNoneRow, standIns := [], harness := (true, "e2ef45d1f470397d3358afeab3adae8aca9a807cdc6385069a01977be4b392c4"), looks := false }, kinds := [], alts := [], laidByText := true, laidKinds := [.pinned], laidTests := true, laidLooks := .later }
def FnSpecialUpperNoneCardSaid : Prop := Claim7.holds Tryd.pinned (.plain (OpenSpec.ofChange fnSpecialUpperNoneSpec)) fnSpecialUpperNoneCard

/-- THE TIED CARD OF 'laws.FnSpecialUpperStay'. -/
def fnSpecialUpperStayCard : Claim7 := { stood := { row := fnSpecialUpperStayRow, standIns := [], harness := (true, "e2ef45d1f470397d3358afeab3adae8aca9a807cdc6385069a01977be4b392c4"), looks := false }, kinds := [], alts := [], laidByText := true, laidKinds := [.pinned], laidTests := true, laidLooks := .later }
def FnSpecialUpperStayCardSaid : Prop := Claim7.holds Tryd.pinned (.plain (OpenSpec.ofChange fnSpecialUpperStaySpec)) fnSpecialUpperStayCard

/-- THE TIED CARD OF 'laws.FnTurns'. -/
def fnTurnsCard : Claim7 := { stood := { row := fnTurnsRow, standIns := [], harness := (true, "e2ef45d1f470397d3358afeab3adae8aca9a807cdc6385069a01977be4b392c4"), looks := false }, kinds := [], alts := [], laidByText := true, laidKinds := [.pinned], laidTests := true, laidLooks := .later }
def FnTurnsCardSaid : Prop := Claim7.holds Tryd.pinned (.plain (OpenSpec.ofChange fnTurnsSpec)) fnTurnsCard

/-- THE SECOND FORM's CARD OF 'laws.FnSpecialUpperElse'. -/
def fnSpecialUpperElseUptoCard : Claim7 := { stood := { row := fnSpecialUpperElseUptoRow, standIns := [], harness := (true, "e2ef45d1f470397d3358afeab3adae8aca9a807cdc6385069a01977be4b392c4"), looks := false }, kinds := [], alts := [], laidByText := true, laidKinds := [.pinned], laidTests := true, laidLooks := .later }
def FnSpecialUpperElseUptoCardSaid : Prop := Claim7.holds Tryd.pinned (.plain (OpenSpec.upto fnSpecialUpperElseSpec)) fnSpecialUpperElseUptoCard

/-- THE SECOND FORM's CARD OF 'laws.FnSpecialUpperNone'. -/
def fnSpecialUpperNoneUptoCard : Claim7 := { stood := { row := fnSpecialUpperNoneUptoRow, standIns := [], harness := (true, "e2ef45d1f470397d3358afeab3adae8aca9a807cdc6385069a01977be4b392c4"), looks := false }, kinds := [], alts := [], laidByText := true, laidKinds := [.pinned], laidTests := true, laidLooks := .later }
def FnSpecialUpperNoneUptoCardSaid : Prop := Claim7.holds Tryd.pinned (.plain (OpenSpec.upto fnSpecialUpperNoneSpec)) fnSpecialUpperNoneUptoCard

/-- THE SECOND FORM's CARD OF 'laws.FnSpecialUpperStay'. -/
def fnSpecialUpperStayUptoCard : Claim7 := { stood := { row := fnSpecialUpperStayUptoRow, standIns := [], harness := (true, "e2ef45d1f470397d3358afeab3adae8aca9a807cdc6385069a01977be4b392c4"), looks := false }, kinds := [], alts := [], laidByText := true, laidKinds := [.pinned], laidTests := true, laidLooks := .later }
def FnSpecialUpperStayUptoCardSaid : Prop := Claim7.holds Tryd.pinned (.plain (OpenSpec.upto fnSpecialUpperStaySpec)) fnSpecialUpperStayUptoCard

/-- THE SECOND FORM's CARD OF 'laws.FnTurns'. -/
def fnTurnsUptoCard : Claim7 := { stood := { row := fnTurnsUptoRow, standIns := [], harness := (true, "e2ef45d1f470397d3358afeab3adae8aca9a807cdc6385069a01977be4b392c4"), looks := false }, kinds := [], alts := [], laidByText := true, laidKinds := [.pinned], laidTests := true, laidLooks := .later }
def FnTurnsUptoCardSaid : Prop := Claim7.holds Tryd.pinned (.plain (OpenSpec.upto fnTurnsSpec)) fnTurnsUptoCard
end Rows
end Go.Proofs.YtklmigpcomnchaaDoor
