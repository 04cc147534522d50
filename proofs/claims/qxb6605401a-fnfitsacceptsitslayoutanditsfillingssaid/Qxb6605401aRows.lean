/-
  No cell of these rows narrows 'for every input' (looked for: loops, veiled, ifaces, maps, wideKeys, modest, calm, conditions, laid).
  DERIVED. THE GIVEN ROWS OF THIS SEAT. 2 by the template 'for every input the law returns true; each argument reads behind the call as it read before'; 0 by the template 'total and deterministic' (their statements: Qxb6605401aTotals.lean).
  GIVEN WITH THE SEED: the statements are not yours to turn. If you find one false, say at which input.
  Laid BY PROGRAM, IN A SANDBOX (cutbox-rows.mjs): the forced cells as the released guide's own fill.sh prints them over the translation e08e77f4bef0d044… (all of the seat's roots in one cut). By AI agents, Wed Nov 11 2026. No macro, syntax, notation, axiom, sorry.
-/
import Derived.Test.Qxb6605401aChecked
import GoSem.Claim
import GoSem.ClaimJoined
import GoSem.ClaimMapViews
import Derived.JoinedTies
import Derived.KernelRfl
namespace Go.Proofs.Qxb6605401a
/- THE CELL 'sum', in the pinned program and in every row, IS THE sha256 OF THE DUMP (.gsa) THAT Qxb6605401aProg.lean LOADS. Nothing in Lean hashes anything: it is a label: what it is worth is what the hold of that sum in a sandbox is worth. -/
noncomputable def Try.pinned : Pinned := { name := "qxb6605401a", sum := "e08e77f4bef0d044030681c02800e1d649340bcdb03bd497cd06aefbff841526", checked := Try.checked }
namespace Rows
def none {H : Type} : Left H := { results := [], args := [] }

/-- 'zzlaws_internal_loadfile_b1.FnFitsMatchesTextSideModel': WHATEVER THE INPUT: true; the input reads as it did. -/
def fnFitsMatchesTextSideModelSpec : ChangeSpec := { name := "fnFitsMatchesTextSideModel", fn := fun _ => fun
  | [d1, d2] => { results := [.lit (.bool true)], args := [d1, d2] }
  | _ => none }
def fnFitsMatchesTextSideModelRow : OpenClaim := { program := "qxb6605401a", sum := "e08e77f4bef0d044030681c02800e1d649340bcdb03bd497cd06aefbff841526", func := "example.com/piedmont/piedmont/zzlaws_internal_loadfile_b1.FnFitsMatchesTextSideModel", spec := "fnFitsMatchesTextSideModel", apart := false }
def FnFitsMatchesTextSideModelSaid : Prop := fnFitsMatchesTextSideModelRow.holds Try.pinned (OpenSpec.ofChange fnFitsMatchesTextSideModelSpec)

/-- ITS FALSE NEIGHBOUR: 'it returns false'. Refute it at one input. -/
def fnFitsMatchesTextSideModelWrong : ChangeSpec := { name := "fnFitsMatchesTextSideModel", fn := fun _ => fun
  | [d1, d2] => { results := [.lit (.bool false)], args := [d1, d2] }
  | _ => none }
def FnFitsMatchesTextSideModelWrongFalsely : Prop := fnFitsMatchesTextSideModelRow.holds Try.pinned (OpenSpec.ofChange fnFitsMatchesTextSideModelWrong)

/-- 'zzlaws_internal_loadfile_b1.FnFitsAcceptsItsLayoutAndItsFillings': WHATEVER THE INPUT: true; the input reads as it did. -/
def fnFitsAcceptsItsLayoutAndItsFillingsSpec : ChangeSpec := { name := "fnFitsAcceptsItsLayoutAndItsFillings", fn := fun _ => fun
  | [d1, d2] => { results := [.lit (.bool true)], args := [d1, d2] }
  | _ => none }
def fnFitsAcceptsItsLayoutAndItsFillingsRow : OpenClaim := { program := "qxb6605401a", sum := "e08e77f4bef0d044030681c02800e1d649340bcdb03bd497cd06aefbff841526", func := "example.com/piedmont/piedmont/zzlaws_internal_loadfile_b1.FnFitsAcceptsItsLayoutAndItsFillings", spec := "fnFitsAcceptsItsLayoutAndItsFillings", apart := false }
def FnFitsAcceptsItsLayoutAndItsFillingsSaid : Prop := fnFitsAcceptsItsLayoutAndItsFillingsRow.holds Try.pinned (OpenSpec.ofChange fnFitsAcceptsItsLayoutAndItsFillingsSpec)

/-- ITS FALSE NEIGHBOUR: 'it returns false'. Refute it at one input. -/
def fnFitsAcceptsItsLayoutAndItsFillingsWrong : ChangeSpec := { name := "fnFitsAcceptsItsLayoutAndItsFillings", fn := fun _ => fun
  | [d1, d2] => { results := [.lit (.bool false)], args := [d1, d2] }
  | _ => none }
def FnFitsAcceptsItsLayoutAndItsFillingsWrongFalsely : Prop := fnFitsAcceptsItsLayoutAndItsFillingsRow.holds Try.pinned (OpenSpec.ofChange fnFitsAcceptsItsLayoutAndItsFillingsWrong)

end Rows
end Go.Proofs.Qxb6605401a
