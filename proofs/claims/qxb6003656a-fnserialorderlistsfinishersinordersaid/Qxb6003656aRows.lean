/-
  No cell of these rows narrows 'for every input' (looked for: loops, veiled, ifaces, maps, wideKeys, modest, calm, conditions, laid).
  DERIVED. THE GIVEN ROWS OF THIS SEAT. 4 by the template 'for every input the law returns true; each argument reads behind the call as it read before'; 0 by the template 'total and deterministic' (their statements: Qxb6003656aTotals.lean).
  GIVEN WITH THE SEED: the statements are not yours to turn. If you find one false, say at which input.
  Laid BY PROGRAM, IN A SANDBOX (cutbox-rows.mjs): the forced cells as the released guide's own fill.sh prints them over the translation c9f6e96ab58be552… (all of the seat's roots in one cut). By AI agents, Wed Nov 11 2026. No macro, syntax, notation, axiom, sorry.
-/
import Derived.Test.Qxb6003656aChecked
import GoSem.Claim
import GoSem.ClaimJoined
import GoSem.ClaimMapViews
import Derived.JoinedTies
import Derived.KernelRfl
namespace Go.Proofs.Qxb6003656a
/- THE CELL 'sum', in the pinned program and in every row, IS THE sha256 OF THE DUMP (.gsa) THAT Qxb6003656aProg.lean LOADS. Nothing in Lean hashes anything: it is a label: what it is worth is what the hold of that sum in a sandbox is worth. -/
noncomputable def Try.pinned : Pinned := { name := "qxb6003656a", sum := "c9f6e96ab58be552e3a0189d4a14bbe520d0cb88de66daf5b3f15190e5a28cc3", checked := Try.checked }
namespace Rows
def none {H : Type} : Left H := { results := [], args := [] }

/-- 'zzlaws_root_b1.FnSerialOrderListsFinishersInOrder': WHATEVER THE INPUT: true; the input reads as it did. -/
def fnSerialOrderListsFinishersInOrderSpec : ChangeSpec := { name := "fnSerialOrderListsFinishersInOrder", fn := fun _ => fun
  | [d1, d2] => { results := [.lit (.bool true)], args := [d1, d2] }
  | _ => none }
def fnSerialOrderListsFinishersInOrderRow : OpenClaim := { program := "qxb6003656a", sum := "c9f6e96ab58be552e3a0189d4a14bbe520d0cb88de66daf5b3f15190e5a28cc3", func := "example.com/interlace/interlace/zzlaws_root_b1.FnSerialOrderListsFinishersInOrder", spec := "fnSerialOrderListsFinishersInOrder", apart := false }
def FnSerialOrderListsFinishersInOrderSaid : Prop := fnSerialOrderListsFinishersInOrderRow.holds Try.pinned (OpenSpec.ofChange fnSerialOrderListsFinishersInOrderSpec)

/-- ITS FALSE NEIGHBOUR: 'it returns false'. Refute it at one input. -/
def fnSerialOrderListsFinishersInOrderWrong : ChangeSpec := { name := "fnSerialOrderListsFinishersInOrder", fn := fun _ => fun
  | [d1, d2] => { results := [.lit (.bool false)], args := [d1, d2] }
  | _ => none }
def FnSerialOrderListsFinishersInOrderWrongFalsely : Prop := fnSerialOrderListsFinishersInOrderRow.holds Try.pinned (OpenSpec.ofChange fnSerialOrderListsFinishersInOrderWrong)

/-- 'zzlaws_root_b1.FnCloneCallsDeepCopyAtAnyCut': WHATEVER THE INPUT: true; the input reads as it did. -/
def fnCloneCallsDeepCopyAtAnyCutSpec : ChangeSpec := { name := "fnCloneCallsDeepCopyAtAnyCut", fn := fun _ => fun
  | [d1, d2, d3, d4] => { results := [.lit (.bool true)], args := [d1, d2, d3, d4] }
  | _ => none }
def fnCloneCallsDeepCopyAtAnyCutRow : OpenClaim := { program := "qxb6003656a", sum := "c9f6e96ab58be552e3a0189d4a14bbe520d0cb88de66daf5b3f15190e5a28cc3", func := "example.com/interlace/interlace/zzlaws_root_b1.FnCloneCallsDeepCopyAtAnyCut", spec := "fnCloneCallsDeepCopyAtAnyCut", apart := false }
def FnCloneCallsDeepCopyAtAnyCutSaid : Prop := fnCloneCallsDeepCopyAtAnyCutRow.holds Try.pinned (OpenSpec.ofChange fnCloneCallsDeepCopyAtAnyCutSpec)

/-- ITS FALSE NEIGHBOUR: 'it returns false'. Refute it at one input. -/
def fnCloneCallsDeepCopyAtAnyCutWrong : ChangeSpec := { name := "fnCloneCallsDeepCopyAtAnyCut", fn := fun _ => fun
  | [d1, d2, d3, d4] => { results := [.lit (.bool false)], args := [d1, d2, d3, d4] }
  | _ => none }
def FnCloneCallsDeepCopyAtAnyCutWrongFalsely : Prop := fnCloneCallsDeepCopyAtAnyCutRow.holds Try.pinned (OpenSpec.ofChange fnCloneCallsDeepCopyAtAnyCutWrong)

/-- 'zzlaws_root_b1.FnMakeRowDecodesBack': WHATEVER THE INPUT: true; the input reads as it did. -/
def fnMakeRowDecodesBackSpec : ChangeSpec := { name := "fnMakeRowDecodesBack", fn := fun _ => fun
  | [d1, d2, d3, d4] => { results := [.lit (.bool true)], args := [d1, d2, d3, d4] }
  | _ => none }
def fnMakeRowDecodesBackRow : OpenClaim := { program := "qxb6003656a", sum := "c9f6e96ab58be552e3a0189d4a14bbe520d0cb88de66daf5b3f15190e5a28cc3", func := "example.com/interlace/interlace/zzlaws_root_b1.FnMakeRowDecodesBack", spec := "fnMakeRowDecodesBack", inPlace := ["internal/abi.NoEscape", "internal/bytealg.MakeNoZero"], apart := false }
def FnMakeRowDecodesBackSaid : Prop := fnMakeRowDecodesBackRow.holds Try.pinned (OpenSpec.ofChange fnMakeRowDecodesBackSpec)

/-- ITS FALSE NEIGHBOUR: 'it returns false'. Refute it at one input. -/
def fnMakeRowDecodesBackWrong : ChangeSpec := { name := "fnMakeRowDecodesBack", fn := fun _ => fun
  | [d1, d2, d3, d4] => { results := [.lit (.bool false)], args := [d1, d2, d3, d4] }
  | _ => none }
def FnMakeRowDecodesBackWrongFalsely : Prop := fnMakeRowDecodesBackRow.holds Try.pinned (OpenSpec.ofChange fnMakeRowDecodesBackWrong)

/-- 'zzlaws_root_b1.FnMakeRowSplitsAtAnyField': WHATEVER THE INPUT: true; the input reads as it did. -/
def fnMakeRowSplitsAtAnyFieldSpec : ChangeSpec := { name := "fnMakeRowSplitsAtAnyField", fn := fun _ => fun
  | [d1, d2, d3, d4, d5] => { results := [.lit (.bool true)], args := [d1, d2, d3, d4, d5] }
  | _ => none }
def fnMakeRowSplitsAtAnyFieldRow : OpenClaim := { program := "qxb6003656a", sum := "c9f6e96ab58be552e3a0189d4a14bbe520d0cb88de66daf5b3f15190e5a28cc3", func := "example.com/interlace/interlace/zzlaws_root_b1.FnMakeRowSplitsAtAnyField", spec := "fnMakeRowSplitsAtAnyField", inPlace := ["internal/abi.NoEscape", "internal/bytealg.MakeNoZero"], apart := false }
def FnMakeRowSplitsAtAnyFieldSaid : Prop := fnMakeRowSplitsAtAnyFieldRow.holds Try.pinned (OpenSpec.ofChange fnMakeRowSplitsAtAnyFieldSpec)

/-- ITS FALSE NEIGHBOUR: 'it returns false'. Refute it at one input. -/
def fnMakeRowSplitsAtAnyFieldWrong : ChangeSpec := { name := "fnMakeRowSplitsAtAnyField", fn := fun _ => fun
  | [d1, d2, d3, d4, d5] => { results := [.lit (.bool false)], args := [d1, d2, d3, d4, d5] }
  | _ => none }
def FnMakeRowSplitsAtAnyFieldWrongFalsely : Prop := fnMakeRowSplitsAtAnyFieldRow.holds Try.pinned (OpenSpec.ofChange fnMakeRowSplitsAtAnyFieldWrong)

end Rows
end Go.Proofs.Qxb6003656a
