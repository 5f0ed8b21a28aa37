/-
  NARROWER THAN 'FOR EVERY INPUT', by the rows' own cells (each row's printed sentence says how): FnSpecialUpperCut: laid · FnSpecialUpperSingles: laid · FnSpecialUpperWithout: laid · FnExactSpecialLower: laid · FnExactSpecialTitle: laid · FnExactSpecialUpper: laid · FnSpecialLowerElse: laid · FnSpecialLowerNone: laid · FnSpecialLowerStay: laid · FnSpecialTitleElse: laid · FnSpecialTitleNone: laid · FnSpecialTitleStay: laid.
  DERIVED. THE GIVEN ROWS OF THIS SEAT. 12 by the template 'for every input the law returns true; each argument reads behind the call as it read before'; 0 by the template 'total and deterministic' (their statements: YtfcalmjojmfooaaDoorTotals.lean).
  GIVEN WITH THE SEED: the statements are not yours to turn. If you find one false, say at which input.
  Laid BY PROGRAM, IN A SANDBOX (cutbox-rows.mjs): the forced cells as the released guide's own fill.sh prints them over the translation a3a2ec636811c5ee… (all of the seat's roots in one cut). By AI agents, Wed Nov 11 2026. No macro, syntax, notation, axiom, sorry.
-/
import Derived.Test.YtfcalmjojmfooaaDoorChecked
import GoSem.PinnedTables
import GoSem.Claim
import GoSem.ClaimJoined
import GoSem.ClaimMapViews
import Derived.JoinedTies
import Derived.KernelRfl
namespace Go.Proofs.YtfcalmjojmfooaaDoor
/- THE CELL 'sum', in the pinned program and in every row, IS THE sha256 OF THE DUMP (.gsa) THAT YtfcalmjojmfooaaDoorProg.lean LOADS. Nothing in Lean hashes anything: it is a label: what it is worth is what the hold of that sum in a sandbox is worth. -/
noncomputable def Tryd.pinned : Pinned := { name := "ytfcalmjojmfooaadoor", sum := "a3a2ec636811c5eedf9ec2ffef081e8cc645d6156d80952e8e8cf4010691416d", checked := Tryd.checked }
namespace Rows
def none {H : Type} : Left H := { results := [], args := [] }

/- WHAT THE LISTED PACKAGE-LEVEL VARIABLES READ AS WHEN THE CALL BEGINS. Each datum BY PROGRAM (the guide's laid-datum.mjs) off the statement by which the dump's own 'gosem.cut.vars' lays the variable. In a bare row this is a premise. The card (YtfcalmjojmfooaaDoorCards.lean) ties it to the program's text. -/
/-- One of Go's own tables, pinned by name: the form's constant. -/
def laid_unicode_CaseRanges : DataW Unit := Go.Pinned.caseRanges

/-- 'laws.FnSpecialUpperCut': WHATEVER THE INPUT: true; the input reads as it did. -/
def fnSpecialUpperCutSpec : ChangeSpec := { name := "fnSpecialUpperCut", fn := fun _ => fun
  | [d] => { results := [.lit (.bool true)], args := [d] }
  | _ => none }
def fnSpecialUpperCutRow : OpenClaim := { program := "ytfcalmjojmfooaadoor", sum := "a3a2ec636811c5eedf9ec2ffef081e8cc645d6156d80952e8e8cf4010691416d", func := "loop.example/lib-specialcases/laws.FnSpecialUpperCut", spec := "fnSpecialUpperCut", named := ["unicode.CaseRanges"], apart := false, laid := [("unicode.CaseRanges", laid_unicode_CaseRanges)] }
def FnSpecialUpperCutSaid : Prop := fnSpecialUpperCutRow.holds Tryd.pinned (OpenSpec.ofChange fnSpecialUpperCutSpec)

/-- ITS FALSE NEIGHBOUR: 'it returns false'. Refute it at one input. -/
def fnSpecialUpperCutWrong : ChangeSpec := { name := "fnSpecialUpperCut", fn := fun _ => fun
  | [d] => { results := [.lit (.bool false)], args := [d] }
  | _ => none }
def FnSpecialUpperCutWrongFalsely : Prop := fnSpecialUpperCutRow.holds Tryd.pinned (OpenSpec.ofChange fnSpecialUpperCutWrong)

/-- 'laws.FnSpecialUpperSingles': WHATEVER THE INPUT: true; the input reads as it did. -/
def fnSpecialUpperSinglesSpec : ChangeSpec := { name := "fnSpecialUpperSingles", fn := fun _ => fun
  | [d] => { results := [.lit (.bool true)], args := [d] }
  | _ => none }
def fnSpecialUpperSinglesRow : OpenClaim := { program := "ytfcalmjojmfooaadoor", sum := "a3a2ec636811c5eedf9ec2ffef081e8cc645d6156d80952e8e8cf4010691416d", func := "loop.example/lib-specialcases/laws.FnSpecialUpperSingles", spec := "fnSpecialUpperSingles", named := ["unicode.CaseRanges"], apart := false, laid := [("unicode.CaseRanges", laid_unicode_CaseRanges)] }
def FnSpecialUpperSinglesSaid : Prop := fnSpecialUpperSinglesRow.holds Tryd.pinned (OpenSpec.ofChange fnSpecialUpperSinglesSpec)

/-- ITS FALSE NEIGHBOUR: 'it returns false'. Refute it at one input. -/
def fnSpecialUpperSinglesWrong : ChangeSpec := { name := "fnSpecialUpperSingles", fn := fun _ => fun
  | [d] => { results := [.lit (.bool false)], args := [d] }
  | _ => none }
def FnSpecialUpperSinglesWrongFalsely : Prop := fnSpecialUpperSinglesRow.holds Tryd.pinned (OpenSpec.ofChange fnSpecialUpperSinglesWrong)

/-- 'laws.FnSpecialUpperWithout': WHATEVER THE INPUT: true; the input reads as it did. -/
def fnSpecialUpperWithoutSpec : ChangeSpec := { name := "fnSpecialUpperWithout", fn := fun _ => fun
  | [d] => { results := [.lit (.bool true)], args := [d] }
  | _ => none }
def fnSpecialUpperWithoutRow : OpenClaim := { program := "ytfcalmjojmfooaadoor", sum := "a3a2ec636811c5eedf9ec2ffef081e8cc645d6156d80952e8e8cf4010691416d", func := "loop.example/lib-specialcases/laws.FnSpecialUpperWithout", spec := "fnSpecialUpperWithout", named := ["unicode.CaseRanges"], apart := false, laid := [("unicode.CaseRanges", laid_unicode_CaseRanges)] }
def FnSpecialUpperWithoutSaid : Prop := fnSpecialUpperWithoutRow.holds Tryd.pinned (OpenSpec.ofChange fnSpecialUpperWithoutSpec)

/-- ITS FALSE NEIGHBOUR: 'it returns false'. Refute it at one input. -/
def fnSpecialUpperWithoutWrong : ChangeSpec := { name := "fnSpecialUpperWithout", fn := fun _ => fun
  | [d] => { results := [.lit (.bool false)], args := [d] }
  | _ => none }
def FnSpecialUpperWithoutWrongFalsely : Prop := fnSpecialUpperWithoutRow.holds Tryd.pinned (OpenSpec.ofChange fnSpecialUpperWithoutWrong)

/-- 'laws.FnExactSpecialLower': WHATEVER THE INPUT: true; the input reads as it did. -/
def fnExactSpecialLowerSpec : ChangeSpec := { name := "fnExactSpecialLower", fn := fun _ => fun
  | [d1, d2] => { results := [.lit (.bool true)], args := [d1, d2] }
  | _ => none }
def fnExactSpecialLowerRow : OpenClaim := { program := "ytfcalmjojmfooaadoor", sum := "a3a2ec636811c5eedf9ec2ffef081e8cc645d6156d80952e8e8cf4010691416d", func := "loop.example/lib-specialcases/laws.FnExactSpecialLower", spec := "fnExactSpecialLower", named := ["unicode.CaseRanges"], apart := false, laid := [("unicode.CaseRanges", laid_unicode_CaseRanges)] }
def FnExactSpecialLowerSaid : Prop := fnExactSpecialLowerRow.holds Tryd.pinned (OpenSpec.ofChange fnExactSpecialLowerSpec)

/-- ITS FALSE NEIGHBOUR: 'it returns false'. Refute it at one input. -/
def fnExactSpecialLowerWrong : ChangeSpec := { name := "fnExactSpecialLower", fn := fun _ => fun
  | [d1, d2] => { results := [.lit (.bool false)], args := [d1, d2] }
  | _ => none }
def FnExactSpecialLowerWrongFalsely : Prop := fnExactSpecialLowerRow.holds Tryd.pinned (OpenSpec.ofChange fnExactSpecialLowerWrong)

/-- 'laws.FnExactSpecialTitle': WHATEVER THE INPUT: true; the input reads as it did. -/
def fnExactSpecialTitleSpec : ChangeSpec := { name := "fnExactSpecialTitle", fn := fun _ => fun
  | [d1, d2] => { results := [.lit (.bool true)], args := [d1, d2] }
  | _ => none }
def fnExactSpecialTitleRow : OpenClaim := { program := "ytfcalmjojmfooaadoor", sum := "a3a2ec636811c5eedf9ec2ffef081e8cc645d6156d80952e8e8cf4010691416d", func := "loop.example/lib-specialcases/laws.FnExactSpecialTitle", spec := "fnExactSpecialTitle", named := ["unicode.CaseRanges"], apart := false, laid := [("unicode.CaseRanges", laid_unicode_CaseRanges)] }
def FnExactSpecialTitleSaid : Prop := fnExactSpecialTitleRow.holds Tryd.pinned (OpenSpec.ofChange fnExactSpecialTitleSpec)

/-- ITS FALSE NEIGHBOUR: 'it returns false'. Refute it at one input. -/
def fnExactSpecialTitleWrong : ChangeSpec := { name := "fnExactSpecialTitle", fn := fun _ => fun
  | [d1, d2] => { results := [.lit (.bool false)], args := [d1, d2] }
  | _ => none }
def FnExactSpecialTitleWrongFalsely : Prop := fnExactSpecialTitleRow.holds Tryd.pinned (OpenSpec.ofChange fnExactSpecialTitleWrong)

/-- 'laws.FnExactSpecialUpper': WHATEVER THE INPUT: true; the input reads as it did. -/
def fnExactSpecialUpperSpec : ChangeSpec := { name := "fnExactSpecialUpper", fn := fun _ => fun
  | [d1, d2] => { results := [.lit (.bool true)], args := [d1, d2] }
  | _ => none }
def fnExactSpecialUpperRow : OpenClaim := { program := "ytfcalmjojmfooaadoor", sum := "a3a2ec636811c5eedf9ec2ffef081e8cc645d6156d80952e8e8cf4010691416d", func := "loop.example/lib-specialcases/laws.FnExactSpecialUpper", spec := "fnExactSpecialUpper", named := ["unicode.CaseRanges"], apart := false, laid := [("unicode.CaseRanges", laid_unicode_CaseRanges)] }
def FnExactSpecialUpperSaid : Prop := fnExactSpecialUpperRow.holds Tryd.pinned (OpenSpec.ofChange fnExactSpecialUpperSpec)

/-- ITS FALSE NEIGHBOUR: 'it returns false'. Refute it at one input. -/
def fnExactSpecialUpperWrong : ChangeSpec := { name := "fnExactSpecialUpper", fn := fun _ => fun
  | [d1, d2] => { results := [.lit (.bool false)], args := [d1, d2] }
  | _ => none }
def FnExactSpecialUpperWrongFalsely : Prop := fnExactSpecialUpperRow.holds Tryd.pinned (OpenSpec.ofChange fnExactSpecialUpperWrong)

/-- 'laws.FnSpecialLowerElse': WHATEVER THE INPUT: true; the input reads as it did. -/
def fnSpecialLowerElseSpec : ChangeSpec := { name := "fnSpecialLowerElse", fn := fun _ => fun
  | [d] => { results := [.lit (.bool true)], args := [d] }
  | _ => none }
def fnSpecialLowerElseRow : OpenClaim := { program := "ytfcalmjojmfooaadoor", sum := "a3a2ec636811c5eedf9ec2ffef081e8cc645d6156d80952e8e8cf4010691416d", func := "loop.example/lib-specialcases/laws.FnSpecialLowerElse", spec := "fnSpecialLowerElse", named := ["unicode.CaseRanges"], apart := false, laid := [("unicode.CaseRanges", laid_unicode_CaseRanges)] }
def FnSpecialLowerElseSaid : Prop := fnSpecialLowerElseRow.holds Tryd.pinned (OpenSpec.ofChange fnSpecialLowerElseSpec)

/-- ITS FALSE NEIGHBOUR: 'it returns false'. Refute it at one input. -/
def fnSpecialLowerElseWrong : ChangeSpec := { name := "fnSpecialLowerElse", fn := fun _ => fun
  | [d] => { results := [.lit (.bool false)], args := [d] }
  | _ => none }
def FnSpecialLowerElseWrongFalsely : Prop := fnSpecialLowerElseRow.holds Tryd.pinned (OpenSpec.ofChange fnSpecialLowerElseWrong)

/-- 'laws.FnSpecialLowerNone': WHATEVER THE INPUT: true; the input reads as it did. -/
def fnSpecialLowerNoneSpec : ChangeSpec := { name := "fnSpecialLowerNone", fn := fun _ => fun
  | [d] => { results := [.lit (.bool true)], args := [d] }
  | _ => none }
def fnSpecialLowerNoneRow : OpenClaim := { program := "ytfcalmjojmfooaadoor", sum := "a3a2ec636811c5eedf9ec2ffef081e8cc645d6156d80952e8e8cf4010691416d", func := "loop.example/lib-specialcases/laws.FnSpecialLowerNone", spec := "fnSpecialLowerNone", named := ["unicode.CaseRanges"], apart := false, laid := [("unicode.CaseRanges", laid_unicode_CaseRanges)] }
def FnSpecialLowerNoneSaid : Prop := fnSpecialLowerNoneRow.holds Tryd.pinned (OpenSpec.ofChange fnSpecialLowerNoneSpec)

/-- ITS FALSE NEIGHBOUR: 'it returns false'. Refute it at one input. -/
def fnSpecialLowerNoneWrong : ChangeSpec := { name := "fnSpecialLowerNone", fn := fun _ => fun
  | [d] => { results := [.lit (.bool false)], args := [d] }
  | _ => none }
def FnSpecialLowerNoneWrongFalsely : Prop := fnSpecialLowerNoneRow.holds Tryd.pinned (OpenSpec.ofChange fnSpecialLowerNoneWrong)

/-- 'laws.FnSpecialLowerStay': WHATEVER THE INPUT: true; the input reads as it did. -/
def fnSpecialLowerStaySpec : ChangeSpec := { name := "fnSpecialLowerStay", fn := fun _ => fun
  | [d] => { results := [.lit (.bool true)], args := [d] }
  | _ => none }
def fnSpecialLowerStayRow : OpenClaim := { program := "ytfcalmjojmfooaadoor", sum := "a3a2ec636811c5eedf9ec2ffef081e8cc645d6156d80952e8e8cf4010691416d", func := "loop.example/lib-specialcases/laws.FnSpecialLowerStay", spec := "fnSpecialLowerStay", named := ["unicode.CaseRanges"], apart := false, laid := [("unicode.CaseRanges", laid_unicode_CaseRanges)] }
def FnSpecialLowerStaySaid : Prop := fnSpecialLowerStayRow.holds Tryd.pinned (OpenSpec.ofChange fnSpecialLowerStaySpec)

/-- ITS FALSE NEIGHBOUR: 'it returns false'. Refute it at one input. -/
def fnSpecialLowerStayWrong : ChangeSpec := { name := "fnSpecialLowerStay", fn := fun _ => fun
  | [d] => { results := [.lit (.bool false)], args := [d] }
  | _ => none }
def FnSpecialLowerStayWrongFalsely : Prop := fnSpecialLowerStayRow.holds Tryd.pinned (OpenSpec.ofChange fnSpecialLowerStayWrong)

/-- 'laws.FnSpecialTitleElse': WHATEVER THE INPUT: true; the input reads as it did. -/
def fnSpecialTitleElseSpec : ChangeSpec := { name := "fnSpecialTitleElse", fn := fun _ => fun
  | [d] => { results := [.lit (.bool true)], args := [d] }
  | _ => none }
def fnSpecialTitleElseRow : OpenClaim := { program := "ytfcalmjojmfooaadoor", sum := "a3a2ec636811c5eedf9ec2ffef081e8cc645d6156d80952e8e8cf4010691416d", func := "loop.example/lib-specialcases/laws.FnSpecialTitleElse", spec := "fnSpecialTitleElse", named := ["unicode.CaseRanges"], apart := false, laid := [("unicode.CaseRanges", laid_unicode_CaseRanges)] }
def FnSpecialTitleElseSaid : Prop := fnSpecialTitleElseRow.holds Tryd.pinned (OpenSpec.ofChange fnSpecialTitleElseSpec)

/-- ITS FALSE NEIGHBOUR: 'it returns false'. Refute it at one input. -/
def fnSpecialTitleElseWrong : ChangeSpec := { name := "fnSpecialTitleElse", fn := fun _ => fun
  | [d] => { results := [.lit (.bool false)], args := [d] }
  | _ => none }
def FnSpecialTitleElseWrongFalsely : Prop := fnSpecialTitleElseRow.holds Tryd.pinned (OpenSpec.ofChange fnSpecialTitleElseWrong)

/-- 'laws.FnSpecialTitleNone': WHATEVER THE INPUT: true; the input reads as it did. -/
def fnSpecialTitleNoneSpec : ChangeSpec := { name := "fnSpecialTitleNone", fn := fun _ => fun
  | [d] => { results := [.lit (.bool true)], args := [d] }
  | _ => none }
def fnSpecialTitleNoneRow : OpenClaim := { program := "ytfcalmjojmfooaadoor", sum := "a3a2ec636811c5eedf9ec2ffef081e8cc645d6156d80952e8e8cf4010691416d", func := "loop.example/lib-specialcases/laws.FnSpecialTitleNone", spec := "fnSpecialTitleNone", named := ["unicode.CaseRanges"], apart := false, laid := [("unicode.CaseRanges", laid_unicode_CaseRanges)] }
def FnSpecialTitleNoneSaid : Prop := fnSpecialTitleNoneRow.holds Tryd.pinned (OpenSpec.ofChange fnSpecialTitleNoneSpec)

/-- ITS FALSE NEIGHBOUR: 'it returns false'. Refute it at one input. -/
def fnSpecialTitleNoneWrong : ChangeSpec := { name := "fnSpecialTitleNone", fn := fun _ => fun
  | [d] => { results := [.lit (.bool false)], args := [d] }
  | _ => none }
def FnSpecialTitleNoneWrongFalsely : Prop := fnSpecialTitleNoneRow.holds Tryd.pinned (OpenSpec.ofChange fnSpecialTitleNoneWrong)

/-- 'laws.FnSpecialTitleStay': WHATEVER THE INPUT: true; the input reads as it did. -/
def fnSpecialTitleStaySpec : ChangeSpec := { name := "fnSpecialTitleStay", fn := fun _ => fun
  | [d] => { results := [.lit (.bool true)], args := [d] }
  | _ => none }
def fnSpecialTitleStayRow : OpenClaim := { program := "ytfcalmjojmfooaadoor", sum := "a3a2ec636811c5eedf9ec2ffef081e8cc645d6156d80952e8e8cf4010691416d", func := "loop.example/lib-specialcases/laws.FnSpecialTitleStay", spec := "fnSpecialTitleStay", named := ["unicode.CaseRanges"], apart := false, laid := [("unicode.CaseRanges", laid_unicode_CaseRanges)] }
def FnSpecialTitleStaySaid : Prop := fnSpecialTitleStayRow.holds Tryd.pinned (OpenSpec.ofChange fnSpecialTitleStaySpec)

/-- ITS FALSE NEIGHBOUR: 'it returns false'. Refute it at one input. -/
def fnSpecialTitleStayWrong : ChangeSpec := { name := "fnSpecialTitleStay", fn := fun _ => fun
  | [d] => { results := [.lit (.bool false)], args := [d] }
  | _ => none }
def FnSpecialTitleStayWrongFalsely : Prop := fnSpecialTitleStayRow.holds Tryd.pinned (OpenSpec.ofChange fnSpecialTitleStayWrong)

/- THE SECOND FORM. 'bulk': how many values and letters a reading holds, each counted each time it is reached (what is shared counts as often as it is met; a slice's spare places count too). A statement '..UptoSaid' is the law's where the arguments, and the package variables that the reading takes, are together of bulk at most 1048576: NARROWER than '..Said'. Prove '..Said' where nothing that the law and all that it calls make is longer than what came in: it says more and counts as full. Else prove '..UptoSaid'. A law counts once. -/
mutual
def uptoBulk {H : Type} : DataW H → Nat
  | .lit (.string bytes) => bytes.length + 1
  | .lit _ => 1
  | .nil => 1
  | .ptr d => uptoBulk d + 1
  | .slice elems spare => uptoBulkAll elems + uptoBulkAll spare + 1
  | .agg parts => uptoBulkAll parts + 1
  | .iface _ d => uptoBulk d + 1
  | .map entries => uptoBulkEntries entries + 1
  | .held _ => 1
def uptoBulkAll {H : Type} : List (DataW H) → Nat
  | [] => 0
  | d :: r => uptoBulk d + uptoBulkAll r
def uptoBulkEntries {H : Type} : List (Lit × DataW H) → Nat
  | [] => 0
  | x :: r => uptoBulkEntry x + uptoBulkEntries r
def uptoBulkEntry {H : Type} : Lit × DataW H → Nat
  | (.string bytes, d) => bytes.length + uptoBulk d + 1
  | (_, d) => uptoBulk d + 1
 end
def uptoSmall : (H : Type) → List (DataW H) → Bool := fun _ ds => decide (uptoBulkAll ds ≤ 1048576)
def OpenSpec.upto (s : _root_.Go.ChangeSpec) : _root_.Go.OpenSpec := { _root_.Go.OpenSpec.ofChange s with cond := some uptoSmall }

/-- 'laws.FnSpecialUpperCut', WHERE WHAT IT READS IS OF BULK AT MOST 1048576: true; the input reads as it did. -/
def fnSpecialUpperCutUptoRow : OpenClaim := { program := "ytfcalmjojmfooaadoor", sum := "a3a2ec636811c5eedf9ec2ffef081e8cc645d6156d80952e8e8cf4010691416d", func := "loop.example/lib-specialcases/laws.FnSpecialUpperCut", spec := "fnSpecialUpperCut", named := ["unicode.CaseRanges"], apart := false, laid := [("unicode.CaseRanges", laid_unicode_CaseRanges)], narrowed := true }
def FnSpecialUpperCutUptoSaid : Prop := fnSpecialUpperCutUptoRow.holds Tryd.pinned (OpenSpec.upto fnSpecialUpperCutSpec)

/-- 'laws.FnSpecialUpperSingles', WHERE WHAT IT READS IS OF BULK AT MOST 1048576: true; the input reads as it did. -/
def fnSpecialUpperSinglesUptoRow : OpenClaim := { program := "ytfcalmjojmfooaadoor", sum := "a3a2ec636811c5eedf9ec2ffef081e8cc645d6156d80952e8e8cf4010691416d", func := "loop.example/lib-specialcases/laws.FnSpecialUpperSingles", spec := "fnSpecialUpperSingles", named := ["unicode.CaseRanges"], apart := false, laid := [("unicode.CaseRanges", laid_unicode_CaseRanges)], narrowed := true }
def FnSpecialUpperSinglesUptoSaid : Prop := fnSpecialUpperSinglesUptoRow.holds Tryd.pinned (OpenSpec.upto fnSpecialUpperSinglesSpec)

/-- 'laws.FnSpecialUpperWithout', WHERE WHAT IT READS IS OF BULK AT MOST 1048576: true; the input reads as it did. -/
def fnSpecialUpperWithoutUptoRow : OpenClaim := { program := "ytfcalmjojmfooaadoor", sum := "a3a2ec636811c5eedf9ec2ffef081e8cc645d6156d80952e8e8cf4010691416d", func := "loop.example/lib-specialcases/laws.FnSpecialUpperWithout", spec := "fnSpecialUpperWithout", named := ["unicode.CaseRanges"], apart := false, laid := [("unicode.CaseRanges", laid_unicode_CaseRanges)], narrowed := true }
def FnSpecialUpperWithoutUptoSaid : Prop := fnSpecialUpperWithoutUptoRow.holds Tryd.pinned (OpenSpec.upto fnSpecialUpperWithoutSpec)

/-- 'laws.FnExactSpecialLower', WHERE WHAT IT READS IS OF BULK AT MOST 1048576: true; the input reads as it did. -/
def fnExactSpecialLowerUptoRow : OpenClaim := { program := "ytfcalmjojmfooaadoor", sum := "a3a2ec636811c5eedf9ec2ffef081e8cc645d6156d80952e8e8cf4010691416d", func := "loop.example/lib-specialcases/laws.FnExactSpecialLower", spec := "fnExactSpecialLower", named := ["unicode.CaseRanges"], apart := false, laid := [("unicode.CaseRanges", laid_unicode_CaseRanges)], narrowed := true }
def FnExactSpecialLowerUptoSaid : Prop := fnExactSpecialLowerUptoRow.holds Tryd.pinned (OpenSpec.upto fnExactSpecialLowerSpec)

/-- 'laws.FnExactSpecialTitle', WHERE WHAT IT READS IS OF BULK AT MOST 1048576: true; the input reads as it did. -/
def fnExactSpecialTitleUptoRow : OpenClaim := { program := "ytfcalmjojmfooaadoor", sum := "a3a2ec636811c5eedf9ec2ffef081e8cc645d6156d80952e8e8cf4010691416d", func := "loop.example/lib-specialcases/laws.FnExactSpecialTitle", spec := "fnExactSpecialTitle", named := ["unicode.CaseRanges"], apart := false, laid := [("unicode.CaseRanges", laid_unicode_CaseRanges)], narrowed := true }
def FnExactSpecialTitleUptoSaid : Prop := fnExactSpecialTitleUptoRow.holds Tryd.pinned (OpenSpec.upto fnExactSpecialTitleSpec)

/-- 'laws.FnExactSpecialUpper', WHERE WHAT IT READS IS OF BULK AT MOST 1048576: true; the input reads as it did. -/
def fnExactSpecialUpperUptoRow : OpenClaim := { program := "ytfcalmjojmfooaadoor", sum := "a3a2ec636811c5eedf9ec2ffef081e8cc645d6156d80952e8e8cf4010691416d", func := "loop.example/lib-specialcases/laws.FnExactSpecialUpper", spec := "fnExactSpecialUpper", named := ["unicode.CaseRanges"], apart := false, laid := [("unicode.CaseRanges", laid_unicode_CaseRanges)], narrowed := true }
def FnExactSpecialUpperUptoSaid : Prop := fnExactSpecialUpperUptoRow.holds Tryd.pinned (OpenSpec.upto fnExactSpecialUpperSpec)

/-- 'laws.FnSpecialLowerElse', WHERE WHAT IT READS IS OF BULK AT MOST 1048576: true; the input reads as it did. -/
def fnSpecialLowerElseUptoRow : OpenClaim := { program := "ytfcalmjojmfooaadoor", sum := "a3a2ec636811c5eedf9ec2ffef081e8cc645d6156d80952e8e8cf4010691416d", func := "loop.example/lib-specialcases/laws.FnSpecialLowerElse", spec := "fnSpecialLowerElse", named := ["unicode.CaseRanges"], apart := false, laid := [("unicode.CaseRanges", laid_unicode_CaseRanges)], narrowed := true }
def FnSpecialLowerElseUptoSaid : Prop := fnSpecialLowerElseUptoRow.holds Tryd.pinned (OpenSpec.upto fnSpecialLowerElseSpec)

/-- 'laws.FnSpecialLowerNone', WHERE WHAT IT READS IS OF BULK AT MOST 1048576: true; the input reads as it did. -/
def fnSpecialLowerNoneUptoRow : OpenClaim := { program := "ytfcalmjojmfooaadoor", sum := "a3a2ec636811c5eedf9ec2ffef081e8cc645d6156d80952e8e8cf4010691416d", func := "loop.example/lib-specialcases/laws.FnSpecialLowerNone", spec := "fnSpecialLowerNone", named := ["unicode.CaseRanges"], apart := false, laid := [("unicode.CaseRanges", laid_unicode_CaseRanges)], narrowed := true }
def FnSpecialLowerNoneUptoSaid : Prop := fnSpecialLowerNoneUptoRow.holds Tryd.pinned (OpenSpec.upto fnSpecialLowerNoneSpec)

/-- 'laws.FnSpecialLowerStay', WHERE WHAT IT READS IS OF BULK AT MOST 1048576: true; the input reads as it did. -/
def fnSpecialLowerStayUptoRow : OpenClaim := { program := "ytfcalmjojmfooaadoor", sum := "a3a2ec636811c5eedf9ec2ffef081e8cc645d6156d80952e8e8cf4010691416d", func := "loop.example/lib-specialcases/laws.FnSpecialLowerStay", spec := "fnSpecialLowerStay", named := ["unicode.CaseRanges"], apart := false, laid := [("unicode.CaseRanges", laid_unicode_CaseRanges)], narrowed := true }
def FnSpecialLowerStayUptoSaid : Prop := fnSpecialLowerStayUptoRow.holds Tryd.pinned (OpenSpec.upto fnSpecialLowerStaySpec)

/-- 'laws.FnSpecialTitleElse', WHERE WHAT IT READS IS OF BULK AT MOST 1048576: true; the input reads as it did. -/
def fnSpecialTitleElseUptoRow : OpenClaim := { program := "ytfcalmjojmfooaadoor", sum := "a3a2ec636811c5eedf9ec2ffef081e8cc645d6156d80952e8e8cf4010691416d", func := "loop.example/lib-specialcases/laws.FnSpecialTitleElse", spec := "fnSpecialTitleElse", named := ["unicode.CaseRanges"], apart := false, laid := [("unicode.CaseRanges", laid_unicode_CaseRanges)], narrowed := true }
def FnSpecialTitleElseUptoSaid : Prop := fnSpecialTitleElseUptoRow.holds Tryd.pinned (OpenSpec.upto fnSpecialTitleElseSpec)

/-- 'laws.FnSpecialTitleNone', WHERE WHAT IT READS IS OF BULK AT MOST 1048576: true; the input reads as it did. -/
def fnSpecialTitleNoneUptoRow : OpenClaim := { program := "ytfcalmjojmfooaadoor", sum := "a3a2ec636811c5eedf9ec2ffef081e8cc645d6156d80952e8e8cf4010691416d", func := "loop.example/lib-specialcases/laws.FnSpecialTitleNone", spec := "fnSpecialTitleNone", named := ["unicode.CaseRanges"], apart := false, laid := [("unicode.CaseRanges", laid_unicode_CaseRanges)], narrowed := true }
def FnSpecialTitleNoneUptoSaid : Prop := fnSpecialTitleNoneUptoRow.holds Tryd.pinned (OpenSpec.upto fnSpecialTitleNoneSpec)

/-- 'laws.FnSpecialTitleStay', WHERE WHAT IT READS IS OF BULK AT MOST 1048576: true; the input reads as it did. -/
def fnSpecialTitleStayUptoRow : OpenClaim := { program := "ytfcalmjojmfooaadoor", sum := "a3a2ec636811c5eedf9ec2ffef081e8cc645d6156d80952e8e8cf4010691416d", func := "loop.example/lib-specialcases/laws.FnSpecialTitleStay", spec := "fnSpecialTitleStay", named := ["unicode.CaseRanges"], apart := false, laid := [("unicode.CaseRanges", laid_unicode_CaseRanges)], narrowed := true }
def FnSpecialTitleStayUptoSaid : Prop := fnSpecialTitleStayUptoRow.holds Tryd.pinned (OpenSpec.upto fnSpecialTitleStaySpec)

end Rows
end Go.Proofs.YtfcalmjojmfooaaDoor
