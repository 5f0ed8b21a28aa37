/-
  NARROWER THAN 'FOR EVERY INPUT', by the rows' own cells (each row's printed sentence says how): FnSpecialLower: laid · FnSpecialLowerCut: laid · FnSpecialLowerSingles: laid · FnTurnsTitle: laid · FnSpecialLowerWithout: laid · FnSpecialTitle: laid · FnDeltas: laid · FnSpecialTitleCut: laid · FnSpecialTitleSingles: laid · FnSpecialTitleWithout: laid · FnTurkish: laid · FnSpecialUpper: laid.
  DERIVED. THE GIVEN ROWS OF THIS SEAT. 12 by the template 'for every input the law returns true; each argument reads behind the call as it read before'; 0 by the template 'total and deterministic' (their statements: YtgkjnoahphlgaaaDoorTotals.lean).
  GIVEN WITH THE SEED: the statements are not yours to turn. If you find one false, say at which input.
  Laid BY PROGRAM, IN A SANDBOX (cutbox-rows.mjs): the forced cells as the released guide's own fill.sh prints them over the translation 22adc7af873b85cb… (all of the seat's roots in one cut). By AI agents, Wed Nov 11 2026. No macro, syntax, notation, axiom, sorry.
-/
import Derived.Test.YtgkjnoahphlgaaaDoorChecked
import GoSem.PinnedTables
import GoSem.Claim
import GoSem.ClaimJoined
import GoSem.ClaimMapViews
import Derived.JoinedTies
import Derived.KernelRfl
namespace Go.Proofs.YtgkjnoahphlgaaaDoor
/- THE CELL 'sum', in the pinned program and in every row, IS THE sha256 OF THE DUMP (.gsa) THAT YtgkjnoahphlgaaaDoorProg.lean LOADS. Nothing in Lean hashes anything: it is a label: what it is worth is what the hold of that sum in a sandbox is worth. -/
noncomputable def Tryd.pinned : Pinned := { name := "ytgkjnoahphlgaaadoor", sum := "22adc7af873b85cb8cd7d2287fcea9ace2acfd81b0328258ddb5809cf6c029cb", checked := Tryd.checked }
namespace Rows
def none {H : Type} : Left H := { results := [], args := [] }

/- WHAT THE LISTED PACKAGE-LEVEL VARIABLES READ AS WHEN THE CALL BEGINS. Each datum BY PROGRAM (the guide's laid-datum.mjs) off the statement by which the dump's own 'gosem.cut.vars' lays the variable. In a bare row this is a premise. The card (YtgkjnoahphlgaaaDoorCards.lean) ties it to the program's text. -/
/-- One of Go's own tables, pinned by name: the form's constant. -/
def laid_unicode_CaseRanges : DataW Unit := Go.Pinned.caseRanges

/-- 'laws.FnSpecialLower': WHATEVER THE INPUT: true; the input reads as it did. -/
def fnSpecialLowerSpec : ChangeSpec := { name := "fnSpecialLower", fn := fun _ => fun
  | [d] => { results := [.lit (.bool true)], args := [d] }
  | _ => none }
def fnSpecialLowerRow : OpenClaim := { program := "ytgkjnoahphlgaaadoor", sum := "22adc7af873b85cb8cd7d2287fcea9ace2acfd81b0328258ddb5809cf6c029cb", func := "loop.example/lib-specialcases/laws.FnSpecialLower", spec := "fnSpecialLower", named := ["unicode.CaseRanges"], apart := false, laid := [("unicode.CaseRanges", laid_unicode_CaseRanges)] }
def FnSpecialLowerSaid : Prop := fnSpecialLowerRow.holds Tryd.pinned (OpenSpec.ofChange fnSpecialLowerSpec)

/-- ITS FALSE NEIGHBOUR: 'it returns false'. Refute it at one input. -/
def fnSpecialLowerWrong : ChangeSpec := { name := "fnSpecialLower", fn := fun _ => fun
  | [d] => { results := [.lit (.bool false)], args := [d] }
  | _ => none }
def FnSpecialLowerWrongFalsely : Prop := fnSpecialLowerRow.holds Tryd.pinned (OpenSpec.ofChange fnSpecialLowerWrong)

/-- 'laws.FnSpecialLowerCut': WHATEVER THE INPUT: true; the input reads as it did. -/
def fnSpecialLowerCutSpec : ChangeSpec := { name := "fnSpecialLowerCut", fn := fun _ => fun
  | [d] => { results := [.lit (.bool true)], args := [d] }
  | _ => none }
def fnSpecialLowerCutRow : OpenClaim := { program := "ytgkjnoahphlgaaadoor", sum := "22adc7af873b85cb8cd7d2287fcea9ace2acfd81b0328258ddb5809cf6c029cb", func := "loop.example/lib-specialcases/laws.FnSpecialLowerCut", spec := "fnSpecialLowerCut", named := ["unicode.CaseRanges"], apart := false, laid := [("unicode.CaseRanges", laid_unicode_CaseRanges)] }
def FnSpecialLowerCutSaid : Prop := fnSpecialLowerCutRow.holds Tryd.pinned (OpenSpec.ofChange fnSpecialLowerCutSpec)

/-- ITS FALSE NEIGHBOUR: 'it returns false'. Refute it at one input. -/
def fnSpecialLowerCutWrong : ChangeSpec := { name := "fnSpecialLowerCut", fn := fun _ => fun
  | [d] => { results := [.lit (.bool false)], args := [d] }
  | _ => none }
def FnSpecialLowerCutWrongFalsely : Prop := fnSpecialLowerCutRow.holds Tryd.pinned (OpenSpec.ofChange fnSpecialLowerCutWrong)

/-- 'laws.FnSpecialLowerSingles': WHATEVER THE INPUT: true; the input reads as it did. -/
def fnSpecialLowerSinglesSpec : ChangeSpec := { name := "fnSpecialLowerSingles", fn := fun _ => fun
  | [d] => { results := [.lit (.bool true)], args := [d] }
  | _ => none }
def fnSpecialLowerSinglesRow : OpenClaim := { program := "ytgkjnoahphlgaaadoor", sum := "22adc7af873b85cb8cd7d2287fcea9ace2acfd81b0328258ddb5809cf6c029cb", func := "loop.example/lib-specialcases/laws.FnSpecialLowerSingles", spec := "fnSpecialLowerSingles", named := ["unicode.CaseRanges"], apart := false, laid := [("unicode.CaseRanges", laid_unicode_CaseRanges)] }
def FnSpecialLowerSinglesSaid : Prop := fnSpecialLowerSinglesRow.holds Tryd.pinned (OpenSpec.ofChange fnSpecialLowerSinglesSpec)

/-- ITS FALSE NEIGHBOUR: 'it returns false'. Refute it at one input. -/
def fnSpecialLowerSinglesWrong : ChangeSpec := { name := "fnSpecialLowerSingles", fn := fun _ => fun
  | [d] => { results := [.lit (.bool false)], args := [d] }
  | _ => none }
def FnSpecialLowerSinglesWrongFalsely : Prop := fnSpecialLowerSinglesRow.holds Tryd.pinned (OpenSpec.ofChange fnSpecialLowerSinglesWrong)

/-- 'laws.FnTurnsTitle': WHATEVER THE INPUT: true; the input reads as it did. -/
def fnTurnsTitleSpec : ChangeSpec := { name := "fnTurnsTitle", fn := fun _ => fun
  | [d] => { results := [.lit (.bool true)], args := [d] }
  | _ => none }
def fnTurnsTitleRow : OpenClaim := { program := "ytgkjnoahphlgaaadoor", sum := "22adc7af873b85cb8cd7d2287fcea9ace2acfd81b0328258ddb5809cf6c029cb", func := "loop.example/lib-specialcases/laws.FnTurnsTitle", spec := "fnTurnsTitle", named := ["unicode.CaseRanges"], apart := false, laid := [("unicode.CaseRanges", laid_unicode_CaseRanges)] }
def FnTurnsTitleSaid : Prop := fnTurnsTitleRow.holds Tryd.pinned (OpenSpec.ofChange fnTurnsTitleSpec)

/-- ITS FALSE NEIGHBOUR: 'it returns false'. Refute it at one input. -/
def fnTurnsTitleWrong : ChangeSpec := { name := "fnTurnsTitle", fn := fun _ => fun
  | [d] => { results := [.lit (.bool false)], args := [d] }
  | _ => none }
def FnTurnsTitleWrongFalsely : Prop := fnTurnsTitleRow.holds Tryd.pinned (OpenSpec.ofChange fnTurnsTitleWrong)

/-- 'laws.FnSpecialLowerWithout': WHATEVER THE INPUT: true; the input reads as it did. -/
def fnSpecialLowerWithoutSpec : ChangeSpec := { name := "fnSpecialLowerWithout", fn := fun _ => fun
  | [d] => { results := [.lit (.bool true)], args := [d] }
  | _ => none }
def fnSpecialLowerWithoutRow : OpenClaim := { program := "ytgkjnoahphlgaaadoor", sum := "22adc7af873b85cb8cd7d2287fcea9ace2acfd81b0328258ddb5809cf6c029cb", func := "loop.example/lib-specialcases/laws.FnSpecialLowerWithout", spec := "fnSpecialLowerWithout", named := ["unicode.CaseRanges"], apart := false, laid := [("unicode.CaseRanges", laid_unicode_CaseRanges)] }
def FnSpecialLowerWithoutSaid : Prop := fnSpecialLowerWithoutRow.holds Tryd.pinned (OpenSpec.ofChange fnSpecialLowerWithoutSpec)

/-- ITS FALSE NEIGHBOUR: 'it returns false'. Refute it at one input. -/
def fnSpecialLowerWithoutWrong : ChangeSpec := { name := "fnSpecialLowerWithout", fn := fun _ => fun
  | [d] => { results := [.lit (.bool false)], args := [d] }
  | _ => none }
def FnSpecialLowerWithoutWrongFalsely : Prop := fnSpecialLowerWithoutRow.holds Tryd.pinned (OpenSpec.ofChange fnSpecialLowerWithoutWrong)

/-- 'laws.FnSpecialTitle': WHATEVER THE INPUT: true; the input reads as it did. -/
def fnSpecialTitleSpec : ChangeSpec := { name := "fnSpecialTitle", fn := fun _ => fun
  | [d] => { results := [.lit (.bool true)], args := [d] }
  | _ => none }
def fnSpecialTitleRow : OpenClaim := { program := "ytgkjnoahphlgaaadoor", sum := "22adc7af873b85cb8cd7d2287fcea9ace2acfd81b0328258ddb5809cf6c029cb", func := "loop.example/lib-specialcases/laws.FnSpecialTitle", spec := "fnSpecialTitle", named := ["unicode.CaseRanges"], apart := false, laid := [("unicode.CaseRanges", laid_unicode_CaseRanges)] }
def FnSpecialTitleSaid : Prop := fnSpecialTitleRow.holds Tryd.pinned (OpenSpec.ofChange fnSpecialTitleSpec)

/-- ITS FALSE NEIGHBOUR: 'it returns false'. Refute it at one input. -/
def fnSpecialTitleWrong : ChangeSpec := { name := "fnSpecialTitle", fn := fun _ => fun
  | [d] => { results := [.lit (.bool false)], args := [d] }
  | _ => none }
def FnSpecialTitleWrongFalsely : Prop := fnSpecialTitleRow.holds Tryd.pinned (OpenSpec.ofChange fnSpecialTitleWrong)

/-- 'laws.FnDeltas': WHATEVER THE INPUT: true; the input reads as it did. -/
def fnDeltasSpec : ChangeSpec := { name := "fnDeltas", fn := fun _ => fun
  | [d] => { results := [.lit (.bool true)], args := [d] }
  | _ => none }
def fnDeltasRow : OpenClaim := { program := "ytgkjnoahphlgaaadoor", sum := "22adc7af873b85cb8cd7d2287fcea9ace2acfd81b0328258ddb5809cf6c029cb", func := "loop.example/lib-specialcases/laws.FnDeltas", spec := "fnDeltas", named := ["unicode.CaseRanges"], apart := false, laid := [("unicode.CaseRanges", laid_unicode_CaseRanges)] }
def FnDeltasSaid : Prop := fnDeltasRow.holds Tryd.pinned (OpenSpec.ofChange fnDeltasSpec)

/-- ITS FALSE NEIGHBOUR: 'it returns false'. Refute it at one input. -/
def fnDeltasWrong : ChangeSpec := { name := "fnDeltas", fn := fun _ => fun
  | [d] => { results := [.lit (.bool false)], args := [d] }
  | _ => none }
def FnDeltasWrongFalsely : Prop := fnDeltasRow.holds Tryd.pinned (OpenSpec.ofChange fnDeltasWrong)

/-- 'laws.FnSpecialTitleCut': WHATEVER THE INPUT: true; the input reads as it did. -/
def fnSpecialTitleCutSpec : ChangeSpec := { name := "fnSpecialTitleCut", fn := fun _ => fun
  | [d] => { results := [.lit (.bool true)], args := [d] }
  | _ => none }
def fnSpecialTitleCutRow : OpenClaim := { program := "ytgkjnoahphlgaaadoor", sum := "22adc7af873b85cb8cd7d2287fcea9ace2acfd81b0328258ddb5809cf6c029cb", func := "loop.example/lib-specialcases/laws.FnSpecialTitleCut", spec := "fnSpecialTitleCut", named := ["unicode.CaseRanges"], apart := false, laid := [("unicode.CaseRanges", laid_unicode_CaseRanges)] }
def FnSpecialTitleCutSaid : Prop := fnSpecialTitleCutRow.holds Tryd.pinned (OpenSpec.ofChange fnSpecialTitleCutSpec)

/-- ITS FALSE NEIGHBOUR: 'it returns false'. Refute it at one input. -/
def fnSpecialTitleCutWrong : ChangeSpec := { name := "fnSpecialTitleCut", fn := fun _ => fun
  | [d] => { results := [.lit (.bool false)], args := [d] }
  | _ => none }
def FnSpecialTitleCutWrongFalsely : Prop := fnSpecialTitleCutRow.holds Tryd.pinned (OpenSpec.ofChange fnSpecialTitleCutWrong)

/-- 'laws.FnSpecialTitleSingles': WHATEVER THE INPUT: true; the input reads as it did. -/
def fnSpecialTitleSinglesSpec : ChangeSpec := { name := "fnSpecialTitleSingles", fn := fun _ => fun
  | [d] => { results := [.lit (.bool true)], args := [d] }
  | _ => none }
def fnSpecialTitleSinglesRow : OpenClaim := { program := "ytgkjnoahphlgaaadoor", sum := "22adc7af873b85cb8cd7d2287fcea9ace2acfd81b0328258ddb5809cf6c029cb", func := "loop.example/lib-specialcases/laws.FnSpecialTitleSingles", spec := "fnSpecialTitleSingles", named := ["unicode.CaseRanges"], apart := false, laid := [("unicode.CaseRanges", laid_unicode_CaseRanges)] }
def FnSpecialTitleSinglesSaid : Prop := fnSpecialTitleSinglesRow.holds Tryd.pinned (OpenSpec.ofChange fnSpecialTitleSinglesSpec)

/-- ITS FALSE NEIGHBOUR: 'it returns false'. Refute it at one input. -/
def fnSpecialTitleSinglesWrong : ChangeSpec := { name := "fnSpecialTitleSingles", fn := fun _ => fun
  | [d] => { results := [.lit (.bool false)], args := [d] }
  | _ => none }
def FnSpecialTitleSinglesWrongFalsely : Prop := fnSpecialTitleSinglesRow.holds Tryd.pinned (OpenSpec.ofChange fnSpecialTitleSinglesWrong)

/-- 'laws.FnSpecialTitleWithout': WHATEVER THE INPUT: true; the input reads as it did. -/
def fnSpecialTitleWithoutSpec : ChangeSpec := { name := "fnSpecialTitleWithout", fn := fun _ => fun
  | [d] => { results := [.lit (.bool true)], args := [d] }
  | _ => none }
def fnSpecialTitleWithoutRow : OpenClaim := { program := "ytgkjnoahphlgaaadoor", sum := "22adc7af873b85cb8cd7d2287fcea9ace2acfd81b0328258ddb5809cf6c029cb", func := "loop.example/lib-specialcases/laws.FnSpecialTitleWithout", spec := "fnSpecialTitleWithout", named := ["unicode.CaseRanges"], apart := false, laid := [("unicode.CaseRanges", laid_unicode_CaseRanges)] }
def FnSpecialTitleWithoutSaid : Prop := fnSpecialTitleWithoutRow.holds Tryd.pinned (OpenSpec.ofChange fnSpecialTitleWithoutSpec)

/-- ITS FALSE NEIGHBOUR: 'it returns false'. Refute it at one input. -/
def fnSpecialTitleWithoutWrong : ChangeSpec := { name := "fnSpecialTitleWithout", fn := fun _ => fun
  | [d] => { results := [.lit (.bool false)], args := [d] }
  | _ => none }
def FnSpecialTitleWithoutWrongFalsely : Prop := fnSpecialTitleWithoutRow.holds Tryd.pinned (OpenSpec.ofChange fnSpecialTitleWithoutWrong)

/-- 'laws.FnTurkish': WHATEVER THE INPUT: true; the input reads as it did. -/
def fnTurkishSpec : ChangeSpec := { name := "fnTurkish", fn := fun _ => fun
  | [d] => { results := [.lit (.bool true)], args := [d] }
  | _ => none }
def fnTurkishRow : OpenClaim := { program := "ytgkjnoahphlgaaadoor", sum := "22adc7af873b85cb8cd7d2287fcea9ace2acfd81b0328258ddb5809cf6c029cb", func := "loop.example/lib-specialcases/laws.FnTurkish", spec := "fnTurkish", named := ["unicode.CaseRanges"], apart := false, laid := [("unicode.CaseRanges", laid_unicode_CaseRanges)] }
def FnTurkishSaid : Prop := fnTurkishRow.holds Tryd.pinned (OpenSpec.ofChange fnTurkishSpec)

/-- ITS FALSE NEIGHBOUR: 'it returns false'. Refute it at one input. -/
def fnTurkishWrong : ChangeSpec := { name := "fnTurkish", fn := fun _ => fun
  | [d] => { results := [.lit (.bool false)], args := [d] }
  | _ => none }
def FnTurkishWrongFalsely : Prop := fnTurkishRow.holds Tryd.pinned (OpenSpec.ofChange fnTurkishWrong)

/-- 'laws.FnSpecialUpper': WHATEVER THE INPUT: true; the input reads as it did. -/
def fnSpecialUpperSpec : ChangeSpec := { name := "fnSpecialUpper", fn := fun _ => fun
  | [d] => { results := [.lit (.bool true)], args := [d] }
  | _ => none }
def fnSpecialUpperRow : OpenClaim := { program := "ytgkjnoahphlgaaadoor", sum := "22adc7af873b85cb8cd7d2287fcea9ace2acfd81b0328258ddb5809cf6c029cb", func := "loop.example/lib-specialcases/laws.FnSpecialUpper", spec := "fnSpecialUpper", named := ["unicode.CaseRanges"], apart := false, laid := [("unicode.CaseRanges", laid_unicode_CaseRanges)] }
def FnSpecialUpperSaid : Prop := fnSpecialUpperRow.holds Tryd.pinned (OpenSpec.ofChange fnSpecialUpperSpec)

/-- ITS FALSE NEIGHBOUR: 'it returns false'. Refute it at one input. -/
def fnSpecialUpperWrong : ChangeSpec := { name := "fnSpecialUpper", fn := fun _ => fun
  | [d] => { results := [.lit (.bool false)], args := [d] }
  | _ => none }
def FnSpecialUpperWrongFalsely : Prop := fnSpecialUpperRow.holds Tryd.pinned (OpenSpec.ofChange fnSpecialUpperWrong)

/- THE SECOND FORM. 'bulk': how many values and letters a reading holds, each counted each time it is reached (what is shared counts as often as it is met; a slice's spare places count too). A statement '..UptoSaid' is the law's where the arguments, and the package variables that the reading takes, are together of bulk at most 1048576: NARROWER than '..Said'. Prove '..Said' where nothing that the law and all that it calls make is longer than what came in: it says more and counts as full. Else prove '..UptoSaid'. A law counts once. -/
mutual
def uptoBulk {H : Type} : DataW H → Nat
  | .lit (.string bytes) => bytes.length + 1
  | .lit _ => 1
  | .nil => 1
  | .ptr d => uptoBulk d + 1
  | .slice elems spare => uptoBulkAll elems + uptoBulkAll spare + 1
  | .agg parts => uptoBulkAll parts + 1
  | .iface _ d => uptoBulk d + 1
  | .map entries => uptoBulkEntries entries + 1
  | .held _ => 1
def uptoBulkAll {H : Type} : List (DataW H) → Nat
  | [] => 0
  | d :: r => uptoBulk d + uptoBulkAll r
def uptoBulkEntries {H : Type} : List (Lit × DataW H) → Nat
  | [] => 0
  | x :: r => uptoBulkEntry x + uptoBulkEntries r
def uptoBulkEntry {H : Type} : Lit × DataW H → Nat
  | (.string bytes, d) => bytes.length + uptoBulk d + 1
  | (_, d) => uptoBulk d + 1
 end
def uptoSmall : (H : Type) → List (DataW H) → Bool := fun _ ds => decide (uptoBulkAll ds ≤ 1048576)
def OpenSpec.upto (s : _root_.Go.ChangeSpec) : _root_.Go.OpenSpec := { _root_.Go.OpenSpec.ofChange s with cond := some uptoSmall }

/-- 'laws.FnSpecialLower', WHERE WHAT IT READS IS OF BULK AT MOST 1048576: true; the input reads as it did. -/
def fnSpecialLowerUptoRow : OpenClaim := { program := "ytgkjnoahphlgaaadoor", sum := "22adc7af873b85cb8cd7d2287fcea9ace2acfd81b0328258ddb5809cf6c029cb", func := "loop.example/lib-specialcases/laws.FnSpecialLower", spec := "fnSpecialLower", named := ["unicode.CaseRanges"], apart := false, laid := [("unicode.CaseRanges", laid_unicode_CaseRanges)], narrowed := true }
def FnSpecialLowerUptoSaid : Prop := fnSpecialLowerUptoRow.holds Tryd.pinned (OpenSpec.upto fnSpecialLowerSpec)

/-- 'laws.FnSpecialLowerCut', WHERE WHAT IT READS IS OF BULK AT MOST 1048576: true; the input reads as it did. -/
def fnSpecialLowerCutUptoRow : OpenClaim := { program := "ytgkjnoahphlgaaadoor", sum := "22adc7af873b85cb8cd7d2287fcea9ace2acfd81b0328258ddb5809cf6c029cb", func := "loop.example/lib-specialcases/laws.FnSpecialLowerCut", spec := "fnSpecialLowerCut", named := ["unicode.CaseRanges"], apart := false, laid := [("unicode.CaseRanges", laid_unicode_CaseRanges)], narrowed := true }
def FnSpecialLowerCutUptoSaid : Prop := fnSpecialLowerCutUptoRow.holds Tryd.pinned (OpenSpec.upto fnSpecialLowerCutSpec)

/-- 'laws.FnSpecialLowerSingles', WHERE WHAT IT READS IS OF BULK AT MOST 1048576: true; the input reads as it did. -/
def fnSpecialLowerSinglesUptoRow : OpenClaim := { program := "ytgkjnoahphlgaaadoor", sum := "22adc7af873b85cb8cd7d2287fcea9ace2acfd81b0328258ddb5809cf6c029cb", func := "loop.example/lib-specialcases/laws.FnSpecialLowerSingles", spec := "fnSpecialLowerSingles", named := ["unicode.CaseRanges"], apart := false, laid := [("unicode.CaseRanges", laid_unicode_CaseRanges)], narrowed := true }
def FnSpecialLowerSinglesUptoSaid : Prop := fnSpecialLowerSinglesUptoRow.holds Tryd.pinned (OpenSpec.upto fnSpecialLowerSinglesSpec)

/-- 'laws.FnTurnsTitle', WHERE WHAT IT READS IS OF BULK AT MOST 1048576: true; the input reads as it did. -/
def fnTurnsTitleUptoRow : OpenClaim := { program := "ytgkjnoahphlgaaadoor", sum := "22adc7af873b85cb8cd7d2287fcea9ace2acfd81b0328258ddb5809cf6c029cb", func := "loop.example/lib-specialcases/laws.FnTurnsTitle", spec := "fnTurnsTitle", named := ["unicode.CaseRanges"], apart := false, laid := [("unicode.CaseRanges", laid_unicode_CaseRanges)], narrowed := true }
def FnTurnsTitleUptoSaid : Prop := fnTurnsTitleUptoRow.holds Tryd.pinned (OpenSpec.upto fnTurnsTitleSpec)

/-- 'laws.FnSpecialLowerWithout', WHERE WHAT IT READS IS OF BULK AT MOST 1048576: true; the input reads as it did. -/
def fnSpecialLowerWithoutUptoRow : OpenClaim := { program := "ytgkjnoahphlgaaadoor", sum := "22adc7af873b85cb8cd7d2287fcea9ace2acfd81b0328258ddb5809cf6c029cb", func := "loop.example/lib-specialcases/laws.FnSpecialLowerWithout", spec := "fnSpecialLowerWithout", named := ["unicode.CaseRanges"], apart := false, laid := [("unicode.CaseRanges", laid_unicode_CaseRanges)], narrowed := true }
def FnSpecialLowerWithoutUptoSaid : Prop := fnSpecialLowerWithoutUptoRow.holds Tryd.pinned (OpenSpec.upto fnSpecialLowerWithoutSpec)

/-- 'laws.FnSpecialTitle', WHERE WHAT IT READS IS OF BULK AT MOST 1048576: true; the input reads as it did. -/
def fnSpecialTitleUptoRow : OpenClaim := { program := "ytgkjnoahphlgaaadoor", sum := "22adc7af873b85cb8cd7d2287fcea9ace2acfd81b0328258ddb5809cf6c029cb", func := "loop.example/lib-specialcases/laws.FnSpecialTitle", spec := "fnSpecialTitle", named := ["unicode.CaseRanges"], apart := false, laid := [("unicode.CaseRanges", laid_unicode_CaseRanges)], narrowed := true }
def FnSpecialTitleUptoSaid : Prop := fnSpecialTitleUptoRow.holds Tryd.pinned (OpenSpec.upto fnSpecialTitleSpec)

/-- 'laws.FnDeltas', WHERE WHAT IT READS IS OF BULK AT MOST 1048576: true; the input reads as it did. -/
def fnDeltasUptoRow : OpenClaim := { program := "ytgkjnoahphlgaaadoor", sum := "22adc7af873b85cb8cd7d2287fcea9ace2acfd81b0328258ddb5809cf6c029cb", func := "loop.example/lib-specialcases/laws.FnDeltas", spec := "fnDeltas", named := ["unicode.CaseRanges"], apart := false, laid := [("unicode.CaseRanges", laid_unicode_CaseRanges)], narrowed := true }
def FnDeltasUptoSaid : Prop := fnDeltasUptoRow.holds Tryd.pinned (OpenSpec.upto fnDeltasSpec)

/-- 'laws.FnSpecialTitleCut', WHERE WHAT IT READS IS OF BULK AT MOST 1048576: true; the input reads as it did. -/
def fnSpecialTitleCutUptoRow : OpenClaim := { program := "ytgkjnoahphlgaaadoor", sum := "22adc7af873b85cb8cd7d2287fcea9ace2acfd81b0328258ddb5809cf6c029cb", func := "loop.example/lib-specialcases/laws.FnSpecialTitleCut", spec := "fnSpecialTitleCut", named := ["unicode.CaseRanges"], apart := false, laid := [("unicode.CaseRanges", laid_unicode_CaseRanges)], narrowed := true }
def FnSpecialTitleCutUptoSaid : Prop := fnSpecialTitleCutUptoRow.holds Tryd.pinned (OpenSpec.upto fnSpecialTitleCutSpec)

/-- 'laws.FnSpecialTitleSingles', WHERE WHAT IT READS IS OF BULK AT MOST 1048576: true; the input reads as it did. -/
def fnSpecialTitleSinglesUptoRow : OpenClaim := { program := "ytgkjnoahphlgaaadoor", sum := "22adc7af873b85cb8cd7d2287fcea9ace2acfd81b0328258ddb5809cf6c029cb", func := "loop.example/lib-specialcases/laws.FnSpecialTitleSingles", spec := "fnSpecialTitleSingles", named := ["unicode.CaseRanges"], apart := false, laid := [("unicode.CaseRanges", laid_unicode_CaseRanges)], narrowed := true }
def FnSpecialTitleSinglesUptoSaid : Prop := fnSpecialTitleSinglesUptoRow.holds Tryd.pinned (OpenSpec.upto fnSpecialTitleSinglesSpec)

/-- 'laws.FnSpecialTitleWithout', WHERE WHAT IT READS IS OF BULK AT MOST 1048576: true; the input reads as it did. -/
def fnSpecialTitleWithoutUptoRow : OpenClaim := { program := "ytgkjnoahphlgaaadoor", sum := "22adc7af873b85cb8cd7d2287fcea9ace2acfd81b0328258ddb5809cf6c029cb", func := "loop.example/lib-specialcases/laws.FnSpecialTitleWithout", spec := "fnSpecialTitleWithout", named := ["unicode.CaseRanges"], apart := false, laid := [("unicode.CaseRanges", laid_unicode_CaseRanges)], narrowed := true }
def FnSpecialTitleWithoutUptoSaid : Prop := fnSpecialTitleWithoutUptoRow.holds Tryd.pinned (OpenSpec.upto fnSpecialTitleWithoutSpec)

/-- 'laws.FnTurkish', WHERE WHAT IT READS IS OF BULK AT MOST 1048576: true; the input reads as it did. -/
def fnTurkishUptoRow : OpenClaim := { program := "ytgkjnoahphlgaaadoor", sum := "22adc7af873b85cb8cd7d2287fcea9ace2acfd81b0328258ddb5809cf6c029cb", func := "loop.example/lib-specialcases/laws.FnTurkish", spec := "fnTurkish", named := ["unicode.CaseRanges"], apart := false, laid := [("unicode.CaseRanges", laid_unicode_CaseRanges)], narrowed := true }
def FnTurkishUptoSaid : Prop := fnTurkishUptoRow.holds Tryd.pinned (OpenSpec.upto fnTurkishSpec)

/-- 'laws.FnSpecialUpper', WHERE WHAT IT READS IS OF BULK AT MOST 1048576: true; the input reads as it did. -/
def fnSpecialUpperUptoRow : OpenClaim := { program := "ytgkjnoahphlgaaadoor", sum := "22adc7af873b85cb8cd7d2287fcea9ace2acfd81b0328258ddb5809cf6c029cb", func := "loop.example/lib-specialcases/laws.FnSpecialUpper", spec := "fnSpecialUpper", named := ["unicode.CaseRanges"], apart := false, laid := [("unicode.CaseRanges", laid_unicode_CaseRanges)], narrowed := true }
def FnSpecialUpperUptoSaid : Prop := fnSpecialUpperUptoRow.holds Tryd.pinned (OpenSpec.upto fnSpecialUpperSpec)

end Rows
end Go.Proofs.YtgkjnoahphlgaaaDoor
