/-
  NARROWER THAN 'FOR EVERY INPUT', by the rows' own cells (each row's printed sentence says how): FnSpecialUpperElse: laid · FnSpecialUpperNone: laid · FnSpecialUpperStay: laid · FnTurns: laid.
  DERIVED. THE GIVEN ROWS OF THIS SEAT. 4 by the template 'for every input the law returns true; each argument reads behind the call as it read before'; 0 by the template 'total and deterministic' (their statements: YtklmigpcomnchaaDoorTotals.lean).
  GIVEN WITH THE SEED: the statements are not yours to turn. If you find one false, say at which input.
  Laid BY PROGRAM, IN A SANDBOX (cutbox-rows.mjs): the forced cells as the released guide's own fill.sh prints them over the translation ab59ea392f100f1e… (all of the seat's roots in one cut). By AI agents, Wed Nov 11 2026. No macro, syntax, notation, axiom, sorry.
-/
import Derived.Test.YtklmigpcomnchaaDoorChecked
import GoSem.PinnedTables
import GoSem.Claim
import GoSem.ClaimJoined
import GoSem.ClaimMapViews
import Derived.JoinedTies
import Derived.KernelRfl
namespace Go.Proofs.YtklmigpcomnchaaDoor
/- THE CELL 'sum', in the pinned program and in every row, IS THE sha256 OF THE DUMP (.gsa) THAT YtklmigpcomnchaaDoorProg.lean LOADS. Nothing in Lean hashes anything: it is a label: what it is worth is what the hold of that sum in a sandbox is worth. -/
noncomputable def Tryd.pinned : Pinned := { name := "ytklmigpcomnchaadoor", sum := "ab59ea392f100f1e37937496fee4ffa6bb02e11958b55f008a7b9f10cd4dfa6a", checked := Tryd.checked }
namespace Rows
def none {H : Type} : Left H := { results := [], args := [] }

/- WHAT THE LISTED PACKAGE-LEVEL VARIABLES READ AS WHEN THE CALL BEGINS. Each datum BY PROGRAM (the guide's laid-datum.mjs) off the statement by which the dump's own 'gosem.cut.vars' lays the variable. In a bare row this is a premise. The card (YtklmigpcomnchaaDoorCards.lean) ties it to the program's text. -/
/-- One of Go's own tables, pinned by name: the form's constant. -/
def laid_unicode_CaseRanges : DataW Unit := Go.Pinned.caseRanges

/-- 'laws.FnSpecialUpperElse': WHATEVER THE INPUT: true; the input reads as it did. -/
def fnSpecialUpperElseSpec : ChangeSpec := { name := "fnSpecialUpperElse", fn := fun _ => fun
  | [d] => { results := [.lit (.bool true)], args := [d] }
  | _ => none }
def fnSpecialUpperElseRow : OpenClaim := { program := "ytklmigpcomnchaadoor", sum := "ab59ea392f100f1e37937496fee4ffa6bb02e11958b55f008a7b9f10cd4dfa6a", func := "loop.example/lib-specialcases/laws.FnSpecialUpperElse", spec := "fnSpecialUpperElse", named := ["unicode.CaseRanges"], apart := false, laid := [("unicode.CaseRanges", laid_unicode_CaseRanges)] }
def FnSpecialUpperElseSaid : Prop := fnSpecialUpperElseRow.holds Tryd.pinned (OpenSpec.ofChange fnSpecialUpperElseSpec)

/-- ITS FALSE NEIGHBOUR: 'it returns false'. Refute it at one input. -/
def fnSpecialUpperElseWrong : ChangeSpec := { name := "fnSpecialUpperElse", fn := fun _ => fun
  | [d] => { results := [.lit (.bool false)], args := [d] }
  | _ => none }
def FnSpecialUpperElseWrongFalsely : Prop := fnSpecialUpperElseRow.holds Tryd.pinned (OpenSpec.ofChange fnSpecialUpperElseWrong)

/-- 'laws.FnSpecialUpperNone': WHATEVER THE INPUT: true; the input reads as it did. -/
def fnSpecialUpperNoneSpec : ChangeSpec := { name := "fnSpecialUpperNone", fn := fun _ => fun
  | [d] => { results := [.lit (.bool true)], args := [d] }
  | _ => none }
def fnSpecialUpperNoneRow : OpenClaim := { program := "ytklmigpcomnchaadoor", sum := "ab59ea392f100f1e37937496fee4ffa6bb02e11958b55f008a7b9f10cd4dfa6a", func := "loop.example/lib-specialcases/laws.FnSpecialUpperNone", spec := "fnSpecialUpperNone", named := ["unicode.CaseRanges"], apart := false, laid := [("unicode.CaseRanges", laid_unicode_CaseRanges)] }
def FnSpecialUpperNoneSaid : Prop := fnSpecialUpperNoneRow.holds Tryd.pinned (OpenSpec.ofChange fnSpecialUpperNoneSpec)

/-- ITS FALSE NEIGHBOUR: 'it returns false'. Refute it at one input. -/
def fnSpecialUpperNoneWrong : ChangeSpec := { name := "fnSpecialUpperNone", fn := fun _ => fun
  | [d] => { results := [.lit (.bool false)], args := [d] }
  | _ => none }
def FnSpecialUpperNoneWrongFalsely : Prop := fnSpecialUpperNoneRow.holds Tryd.pinned (OpenSpec.ofChange fnSpecialUpperNoneWrong)

/-- 'laws.FnSpecialUpperStay': WHATEVER THE INPUT: true; the input reads as it did. -/
def fnSpecialUpperStaySpec : ChangeSpec := { name := "fnSpecialUpperStay", fn := fun _ => fun
  | [d] => { results := [.lit (.bool true)], args := [d] }
  | _ => none }
def fnSpecialUpperStayRow : OpenClaim := { program := "ytklmigpcomnchaadoor", sum := "ab59ea392f100f1e37937496fee4ffa6bb02e11958b55f008a7b9f10cd4dfa6a", func := "loop.example/lib-specialcases/laws.FnSpecialUpperStay", spec := "fnSpecialUpperStay", named := ["unicode.CaseRanges"], apart := false, laid := [("unicode.CaseRanges", laid_unicode_CaseRanges)] }
def FnSpecialUpperStaySaid : Prop := fnSpecialUpperStayRow.holds Tryd.pinned (OpenSpec.ofChange fnSpecialUpperStaySpec)

/-- ITS FALSE NEIGHBOUR: 'it returns false'. Refute it at one input. -/
def fnSpecialUpperStayWrong : ChangeSpec := { name := "fnSpecialUpperStay", fn := fun _ => fun
  | [d] => { results := [.lit (.bool false)], args := [d] }
  | _ => none }
def FnSpecialUpperStayWrongFalsely : Prop := fnSpecialUpperStayRow.holds Tryd.pinned (OpenSpec.ofChange fnSpecialUpperStayWrong)

/-- 'laws.FnTurns': WHATEVER THE INPUT: true; the input reads as it did. -/
def fnTurnsSpec : ChangeSpec := { name := "fnTurns", fn := fun _ => fun
  | [d] => { results := [.lit (.bool true)], args := [d] }
  | _ => none }
def fnTurnsRow : OpenClaim := { program := "ytklmigpcomnchaadoor", sum := "ab59ea392f100f1e37937496fee4ffa6bb02e11958b55f008a7b9f10cd4dfa6a", func := "loop.example/lib-specialcases/laws.FnTurns", spec := "fnTurns", named := ["unicode.CaseRanges"], apart := false, laid := [("unicode.CaseRanges", laid_unicode_CaseRanges)] }
def FnTurnsSaid : Prop := fnTurnsRow.holds Tryd.pinned (OpenSpec.ofChange fnTurnsSpec)

/-- ITS FALSE NEIGHBOUR: 'it returns false'. Refute it at one input. -/
def fnTurnsWrong : ChangeSpec := { name := "fnTurns", fn := fun _ => fun
  | [d] => { results := [.lit (.bool false)], args := [d] }
  | _ => none }
def FnTurnsWrongFalsely : Prop := fnTurnsRow.holds Tryd.pinned (OpenSpec.ofChange fnTurnsWrong)

/- THE SECOND FORM. 'bulk': how many values and letters a reading holds, each counted each time it is reached (what is shared counts as often as it is met; a slice's spare places count too). A statement '..UptoSaid' is the law's where the arguments, and the package variables that the reading takes, are together of bulk at most 1048576: NARROWER than '..Said'. Prove '..Said' where nothing that the law and all that it calls make is longer than what came in: it says more and counts as full. Else prove '..UptoSaid'. A law counts once. -/
mutual
def uptoBulk {H : Type} : DataW H → Nat
  | .lit (.string bytes) => bytes.length + 1
  | .lit _ => 1
  | .nil => 1
  | .ptr d => uptoBulk d + 1
  | .slice elems spare => uptoBulkAll elems + uptoBulkAll spare + 1
  | .agg parts => uptoBulkAll parts + 1
  | .iface _ d => uptoBulk d + 1
  | .map entries => uptoBulkEntries entries + 1
  | .held _ => 1
def uptoBulkAll {H : Type} : List (DataW H) → Nat
  | [] => 0
  | d :: r => uptoBulk d + uptoBulkAll r
def uptoBulkEntries {H : Type} : List (Lit × DataW H) → Nat
  | [] => 0
  | x :: r => uptoBulkEntry x + uptoBulkEntries r
def uptoBulkEntry {H : Type} : Lit × DataW H → Nat
  | (.string bytes, d) => bytes.length + uptoBulk d + 1
  | (_, d) => uptoBulk d + 1
 end
def uptoSmall : (H : Type) → List (DataW H) → Bool := fun _ ds => decide (uptoBulkAll ds ≤ 1048576)
def OpenSpec.upto (s : _root_.Go.ChangeSpec) : _root_.Go.OpenSpec := { _root_.Go.OpenSpec.ofChange s with cond := some uptoSmall }

/-- 'laws.FnSpecialUpperElse', WHERE WHAT IT READS IS OF BULK AT MOST 1048576: true; the input reads as it did. -/
def fnSpecialUpperElseUptoRow : OpenClaim := { program := "ytklmigpcomnchaadoor", sum := "ab59ea392f100f1e37937496fee4ffa6bb02e11958b55f008a7b9f10cd4dfa6a", func := "loop.example/lib-specialcases/laws.FnSpecialUpperElse", spec := "fnSpecialUpperElse", named := ["unicode.CaseRanges"], apart := false, laid := [("unicode.CaseRanges", laid_unicode_CaseRanges)], narrowed := true }
def FnSpecialUpperElseUptoSaid : Prop := fnSpecialUpperElseUptoRow.holds Tryd.pinned (OpenSpec.upto fnSpecialUpperElseSpec)

/-- 'laws.FnSpecialUpperNone', WHERE WHAT IT READS IS OF BULK AT MOST 1048576: true; the input reads as it did. -/
def fnSpecialUpperNoneUptoRow : OpenClaim := { program := "ytklmigpcomnchaadoor", sum := "ab59ea392f100f1e37937496fee4ffa6bb02e11958b55f008a7b9f10cd4dfa6a", func := "loop.example/lib-specialcases/laws.FnSpecialUpperNone", spec := "fnSpecialUpperNone", named := ["unicode.CaseRanges"], apart := false, laid := [("unicode.CaseRanges", laid_unicode_CaseRanges)], narrowed := true }
def FnSpecialUpperNoneUptoSaid : Prop := fnSpecialUpperNoneUptoRow.holds Tryd.pinned (OpenSpec.upto fnSpecialUpperNoneSpec)

/-- 'laws.FnSpecialUpperStay', WHERE WHAT IT READS IS OF BULK AT MOST 1048576: true; the input reads as it did. -/
def fnSpecialUpperStayUptoRow : OpenClaim := { program := "ytklmigpcomnchaadoor", sum := "ab59ea392f100f1e37937496fee4ffa6bb02e11958b55f008a7b9f10cd4dfa6a", func := "loop.example/lib-specialcases/laws.FnSpecialUpperStay", spec := "fnSpecialUpperStay", named := ["unicode.CaseRanges"], apart := false, laid := [("unicode.CaseRanges", laid_unicode_CaseRanges)], narrowed := true }
def FnSpecialUpperStayUptoSaid : Prop := fnSpecialUpperStayUptoRow.holds Tryd.pinned (OpenSpec.upto fnSpecialUpperStaySpec)

/-- 'laws.FnTurns', WHERE WHAT IT READS IS OF BULK AT MOST 1048576: true; the input reads as it did. -/
def fnTurnsUptoRow : OpenClaim := { program := "ytklmigpcomnchaadoor", sum := "ab59ea392f100f1e37937496fee4ffa6bb02e11958b55f008a7b9f10cd4dfa6a", func := "loop.example/lib-specialcases/laws.FnTurns", spec := "fnTurns", named := ["unicode.CaseRanges"], apart := false, laid := [("unicode.CaseRanges", laid_unicode_CaseRanges)], narrowed := true }
def FnTurnsUptoSaid : Prop := fnTurnsUptoRow.holds Tryd.pinned (OpenSpec.upto fnTurnsSpec)

end Rows
end Go.Proofs.YtklmigpcomnchaaDoor
