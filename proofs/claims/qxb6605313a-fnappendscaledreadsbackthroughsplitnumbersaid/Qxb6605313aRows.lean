/-
  No cell of these rows narrows 'for every input' (looked for: loops, veiled, ifaces, maps, wideKeys, modest, calm, conditions, laid).
  DERIVED. THE GIVEN ROWS OF THIS SEAT. 5 by the template 'for every input the law returns true; each argument reads behind the call as it read before'; 0 by the template 'total and deterministic' (their statements: Qxb6605313aTotals.lean).
  GIVEN WITH THE SEED: the statements are not yours to turn. If you find one false, say at which input.
  Laid BY PROGRAM, IN A SANDBOX (cutbox-rows.mjs): the forced cells as the released guide's own fill.sh prints them over the translation 2550ad6b88c9e26e… (all of the seat's roots in one cut). By AI agents, Wed Nov 11 2026. No macro, syntax, notation, axiom, sorry.
-/
import Derived.Test.Qxb6605313aChecked
import GoSem.Claim
import GoSem.ClaimJoined
import GoSem.ClaimMapViews
import Derived.JoinedTies
import Derived.KernelRfl
namespace Go.Proofs.Qxb6605313a
/- THE CELL 'sum', in the pinned program and in every row, IS THE sha256 OF THE DUMP (.gsa) THAT Qxb6605313aProg.lean LOADS. Nothing in Lean hashes anything: it is a label: what it is worth is what the hold of that sum in a sandbox is worth. -/
noncomputable def Try.pinned : Pinned := { name := "qxb6605313a", sum := "2550ad6b88c9e26e972a22762c7b861ae3cf7a582f559cc929bbab83a04ecbb6", checked := Try.checked }
namespace Rows
def none {H : Type} : Left H := { results := [], args := [] }

/-- 'zzlaws_root_b1.FnAppendScaledWritesFixedPointDecimal': WHATEVER THE INPUT: true; the input reads as it did. -/
def fnAppendScaledWritesFixedPointDecimalSpec : ChangeSpec := { name := "fnAppendScaledWritesFixedPointDecimal", fn := fun _ => fun
  | [d1, d2, d3] => { results := [.lit (.bool true)], args := [d1, d2, d3] }
  | _ => none }
def fnAppendScaledWritesFixedPointDecimalRow : OpenClaim := { program := "qxb6605313a", sum := "2550ad6b88c9e26e972a22762c7b861ae3cf7a582f559cc929bbab83a04ecbb6", func := "example.com/ratelayer/ratelayer/zzlaws_root_b1.FnAppendScaledWritesFixedPointDecimal", spec := "fnAppendScaledWritesFixedPointDecimal", apart := false }
def FnAppendScaledWritesFixedPointDecimalSaid : Prop := fnAppendScaledWritesFixedPointDecimalRow.holds Try.pinned (OpenSpec.ofChange fnAppendScaledWritesFixedPointDecimalSpec)

/-- ITS FALSE NEIGHBOUR: 'it returns false'. Refute it at one input. -/
def fnAppendScaledWritesFixedPointDecimalWrong : ChangeSpec := { name := "fnAppendScaledWritesFixedPointDecimal", fn := fun _ => fun
  | [d1, d2, d3] => { results := [.lit (.bool false)], args := [d1, d2, d3] }
  | _ => none }
def FnAppendScaledWritesFixedPointDecimalWrongFalsely : Prop := fnAppendScaledWritesFixedPointDecimalRow.holds Try.pinned (OpenSpec.ofChange fnAppendScaledWritesFixedPointDecimalWrong)

/-- 'zzlaws_root_b1.FnAppendScaledReadsBackThroughSplitNumber': WHATEVER THE INPUT: true; the input reads as it did. -/
def fnAppendScaledReadsBackThroughSplitNumberSpec : ChangeSpec := { name := "fnAppendScaledReadsBackThroughSplitNumber", fn := fun _ => fun
  | [d1, d2, d3] => { results := [.lit (.bool true)], args := [d1, d2, d3] }
  | _ => none }
def fnAppendScaledReadsBackThroughSplitNumberRow : OpenClaim := { program := "qxb6605313a", sum := "2550ad6b88c9e26e972a22762c7b861ae3cf7a582f559cc929bbab83a04ecbb6", func := "example.com/ratelayer/ratelayer/zzlaws_root_b1.FnAppendScaledReadsBackThroughSplitNumber", spec := "fnAppendScaledReadsBackThroughSplitNumber", apart := false }
def FnAppendScaledReadsBackThroughSplitNumberSaid : Prop := fnAppendScaledReadsBackThroughSplitNumberRow.holds Try.pinned (OpenSpec.ofChange fnAppendScaledReadsBackThroughSplitNumberSpec)

/-- ITS FALSE NEIGHBOUR: 'it returns false'. Refute it at one input. -/
def fnAppendScaledReadsBackThroughSplitNumberWrong : ChangeSpec := { name := "fnAppendScaledReadsBackThroughSplitNumber", fn := fun _ => fun
  | [d1, d2, d3] => { results := [.lit (.bool false)], args := [d1, d2, d3] }
  | _ => none }
def FnAppendScaledReadsBackThroughSplitNumberWrongFalsely : Prop := fnAppendScaledReadsBackThroughSplitNumberRow.holds Try.pinned (OpenSpec.ofChange fnAppendScaledReadsBackThroughSplitNumberWrong)

/-- 'zzlaws_root_b1.FnSplitNumberMatchesGrammarModel': WHATEVER THE INPUT: true; the input reads as it did. -/
def fnSplitNumberMatchesGrammarModelSpec : ChangeSpec := { name := "fnSplitNumberMatchesGrammarModel", fn := fun _ => fun
  | [d] => { results := [.lit (.bool true)], args := [d] }
  | _ => none }
def fnSplitNumberMatchesGrammarModelRow : OpenClaim := { program := "qxb6605313a", sum := "2550ad6b88c9e26e972a22762c7b861ae3cf7a582f559cc929bbab83a04ecbb6", func := "example.com/ratelayer/ratelayer/zzlaws_root_b1.FnSplitNumberMatchesGrammarModel", spec := "fnSplitNumberMatchesGrammarModel", apart := false }
def FnSplitNumberMatchesGrammarModelSaid : Prop := fnSplitNumberMatchesGrammarModelRow.holds Try.pinned (OpenSpec.ofChange fnSplitNumberMatchesGrammarModelSpec)

/-- ITS FALSE NEIGHBOUR: 'it returns false'. Refute it at one input. -/
def fnSplitNumberMatchesGrammarModelWrong : ChangeSpec := { name := "fnSplitNumberMatchesGrammarModel", fn := fun _ => fun
  | [d] => { results := [.lit (.bool false)], args := [d] }
  | _ => none }
def FnSplitNumberMatchesGrammarModelWrongFalsely : Prop := fnSplitNumberMatchesGrammarModelRow.holds Try.pinned (OpenSpec.ofChange fnSplitNumberMatchesGrammarModelWrong)

/-- 'zzlaws_root_b1.FnScanMatchesByteAutomaton': WHATEVER THE INPUT: true; the input reads as it did. -/
def fnScanMatchesByteAutomatonSpec : ChangeSpec := { name := "fnScanMatchesByteAutomaton", fn := fun _ => fun
  | [d1, d2, d3, d4] => { results := [.lit (.bool true)], args := [d1, d2, d3, d4] }
  | _ => none }
def fnScanMatchesByteAutomatonRow : OpenClaim := { program := "qxb6605313a", sum := "2550ad6b88c9e26e972a22762c7b861ae3cf7a582f559cc929bbab83a04ecbb6", func := "example.com/ratelayer/ratelayer/zzlaws_root_b1.FnScanMatchesByteAutomaton", spec := "fnScanMatchesByteAutomaton", apart := false }
def FnScanMatchesByteAutomatonSaid : Prop := fnScanMatchesByteAutomatonRow.holds Try.pinned (OpenSpec.ofChange fnScanMatchesByteAutomatonSpec)

/-- ITS FALSE NEIGHBOUR: 'it returns false'. Refute it at one input. -/
def fnScanMatchesByteAutomatonWrong : ChangeSpec := { name := "fnScanMatchesByteAutomaton", fn := fun _ => fun
  | [d1, d2, d3, d4] => { results := [.lit (.bool false)], args := [d1, d2, d3, d4] }
  | _ => none }
def FnScanMatchesByteAutomatonWrongFalsely : Prop := fnScanMatchesByteAutomatonRow.holds Try.pinned (OpenSpec.ofChange fnScanMatchesByteAutomatonWrong)

/-- 'zzlaws_root_b1.FnScanFedInTwoPiecesAgreesWithWhole': WHATEVER THE INPUT: true; the input reads as it did. -/
def fnScanFedInTwoPiecesAgreesWithWholeSpec : ChangeSpec := { name := "fnScanFedInTwoPiecesAgreesWithWhole", fn := fun _ => fun
  | [d1, d2, d3, d4, d5] => { results := [.lit (.bool true)], args := [d1, d2, d3, d4, d5] }
  | _ => none }
def fnScanFedInTwoPiecesAgreesWithWholeRow : OpenClaim := { program := "qxb6605313a", sum := "2550ad6b88c9e26e972a22762c7b861ae3cf7a582f559cc929bbab83a04ecbb6", func := "example.com/ratelayer/ratelayer/zzlaws_root_b1.FnScanFedInTwoPiecesAgreesWithWhole", spec := "fnScanFedInTwoPiecesAgreesWithWhole", apart := false }
def FnScanFedInTwoPiecesAgreesWithWholeSaid : Prop := fnScanFedInTwoPiecesAgreesWithWholeRow.holds Try.pinned (OpenSpec.ofChange fnScanFedInTwoPiecesAgreesWithWholeSpec)

/-- ITS FALSE NEIGHBOUR: 'it returns false'. Refute it at one input. -/
def fnScanFedInTwoPiecesAgreesWithWholeWrong : ChangeSpec := { name := "fnScanFedInTwoPiecesAgreesWithWhole", fn := fun _ => fun
  | [d1, d2, d3, d4, d5] => { results := [.lit (.bool false)], args := [d1, d2, d3, d4, d5] }
  | _ => none }
def FnScanFedInTwoPiecesAgreesWithWholeWrongFalsely : Prop := fnScanFedInTwoPiecesAgreesWithWholeRow.holds Try.pinned (OpenSpec.ofChange fnScanFedInTwoPiecesAgreesWithWholeWrong)

end Rows
end Go.Proofs.Qxb6605313a
