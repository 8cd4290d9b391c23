/-
  No cell of these rows narrows 'for every input' (looked for: loops, veiled, ifaces, maps, wideKeys, modest, calm, conditions, laid).
  DERIVED. THE GIVEN ROWS OF THIS SEAT. 2 by the template 'for every input the law returns true; each argument reads behind the call as it read before'; 0 by the template 'total and deterministic' (their statements: Qxb6615509aTotals.lean).
  GIVEN WITH THE SEED: the statements are not yours to turn. If you find one false, say at which input.
  Laid BY PROGRAM, IN A SANDBOX (cutbox-rows.mjs): the forced cells as the released guide's own fill.sh prints them over the translation 8268091d26af8fba… (all of the seat's roots in one cut). By AI agents, Wed Nov 11 2026. No macro, syntax, notation, axiom, sorry.
-/
import Derived.Test.Qxb6615509aChecked
import GoSem.Claim
import GoSem.ClaimJoined
import GoSem.ClaimMapViews
import Derived.JoinedTies
import Derived.KernelRfl
namespace Go.Proofs.Qxb6615509a
/- THE CELL 'sum', in the pinned program and in every row, IS THE sha256 OF THE DUMP (.gsa) THAT Qxb6615509aProg.lean LOADS. Nothing in Lean hashes anything: it is a label: what it is worth is what the hold of that sum in a sandbox is worth. -/
noncomputable def Try.pinned : Pinned := { name := "qxb6615509a", sum := "8268091d26af8fba2a3c8321701f03ee79c7f777efb67d0c0ef881e800fd5abf", checked := Try.checked }
namespace Rows
def none {H : Type} : Left H := { results := [], args := [] }

/-- 'zzlaws_internal_syntax_b1.FnSyntaxFunctionsOuterThenOwn': WHATEVER THE INPUT: true; the input reads as it did. -/
def fnSyntaxFunctionsOuterThenOwnSpec : ChangeSpec := { name := "fnSyntaxFunctionsOuterThenOwn", fn := fun _ => fun
  | [d1, d2] => { results := [.lit (.bool true)], args := [d1, d2] }
  | _ => none }
def fnSyntaxFunctionsOuterThenOwnRow : OpenClaim := { program := "qxb6615509a", sum := "8268091d26af8fba2a3c8321701f03ee79c7f777efb67d0c0ef881e800fd5abf", func := "example.com/policy-prover/policy-prover/zzlaws_internal_syntax_b1.FnSyntaxFunctionsOuterThenOwn", spec := "fnSyntaxFunctionsOuterThenOwn", recurses := true, apart := false }
def FnSyntaxFunctionsOuterThenOwnSaid : Prop := fnSyntaxFunctionsOuterThenOwnRow.holds Try.pinned (OpenSpec.ofChange fnSyntaxFunctionsOuterThenOwnSpec)

/-- ITS FALSE NEIGHBOUR: 'it returns false'. Refute it at one input. -/
def fnSyntaxFunctionsOuterThenOwnWrong : ChangeSpec := { name := "fnSyntaxFunctionsOuterThenOwn", fn := fun _ => fun
  | [d1, d2] => { results := [.lit (.bool false)], args := [d1, d2] }
  | _ => none }
def FnSyntaxFunctionsOuterThenOwnWrongFalsely : Prop := fnSyntaxFunctionsOuterThenOwnRow.holds Try.pinned (OpenSpec.ofChange fnSyntaxFunctionsOuterThenOwnWrong)

/-- 'zzlaws_internal_syntax_b1.FnSyntaxFunctionsGivesAFreshList': WHATEVER THE INPUT: true; the input reads as it did. -/
def fnSyntaxFunctionsGivesAFreshListSpec : ChangeSpec := { name := "fnSyntaxFunctionsGivesAFreshList", fn := fun _ => fun
  | [d1, d2, d3] => { results := [.lit (.bool true)], args := [d1, d2, d3] }
  | _ => none }
def fnSyntaxFunctionsGivesAFreshListRow : OpenClaim := { program := "qxb6615509a", sum := "8268091d26af8fba2a3c8321701f03ee79c7f777efb67d0c0ef881e800fd5abf", func := "example.com/policy-prover/policy-prover/zzlaws_internal_syntax_b1.FnSyntaxFunctionsGivesAFreshList", spec := "fnSyntaxFunctionsGivesAFreshList", recurses := true, apart := false }
def FnSyntaxFunctionsGivesAFreshListSaid : Prop := fnSyntaxFunctionsGivesAFreshListRow.holds Try.pinned (OpenSpec.ofChange fnSyntaxFunctionsGivesAFreshListSpec)

/-- ITS FALSE NEIGHBOUR: 'it returns false'. Refute it at one input. -/
def fnSyntaxFunctionsGivesAFreshListWrong : ChangeSpec := { name := "fnSyntaxFunctionsGivesAFreshList", fn := fun _ => fun
  | [d1, d2, d3] => { results := [.lit (.bool false)], args := [d1, d2, d3] }
  | _ => none }
def FnSyntaxFunctionsGivesAFreshListWrongFalsely : Prop := fnSyntaxFunctionsGivesAFreshListRow.holds Try.pinned (OpenSpec.ofChange fnSyntaxFunctionsGivesAFreshListWrong)

end Rows
end Go.Proofs.Qxb6615509a
