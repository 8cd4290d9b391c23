/-
  NARROWER THAN 'FOR EVERY INPUT', by the rows' own cells (each row's printed sentence says how): FnSyntaxIsConstantNameSplitsAtAnyCut: maps, laid · FnSyntaxIsConstantNameInsertAnywhere: maps, laid.
  DERIVED. THE GIVEN ROWS OF THIS SEAT. 2 by the template 'for every input the law returns true; each argument reads behind the call as it read before'; 0 by the template 'total and deterministic' (their statements: Qxb6615509aDoorTotals.lean).
  GIVEN WITH THE SEED: the statements are not yours to turn. If you find one false, say at which input.
  Laid BY PROGRAM, IN A SANDBOX (cutbox-rows.mjs): the forced cells as the released guide's own fill.sh prints them over the translation 4e42383bc33c3875… (all of the seat's roots in one cut). By AI agents, Wed Nov 11 2026. No macro, syntax, notation, axiom, sorry.
-/
import Derived.Test.Qxb6615509aDoorChecked
import GoSem.Claim
import GoSem.ClaimJoined
import GoSem.ClaimMapViews
import Derived.JoinedTies
import Derived.KernelRfl
namespace Go.Proofs.Qxb6615509aDoor
/- THE CELL 'sum', in the pinned program and in every row, IS THE sha256 OF THE DUMP (.gsa) THAT Qxb6615509aDoorProg.lean LOADS. Nothing in Lean hashes anything: it is a label: what it is worth is what the hold of that sum in a sandbox is worth. -/
noncomputable def Tryd.pinned : Pinned := { name := "qxb6615509adoor", sum := "4e42383bc33c38752905b77242db002246bdd6e1e4d0651acb7597a5ee37848b", checked := Tryd.checked }
namespace Rows
def none {H : Type} : Left H := { results := [], args := [] }

/- WHAT THE LISTED PACKAGE-LEVEL VARIABLES READ AS WHEN THE CALL BEGINS. Each datum BY PROGRAM (the guide's laid-datum.mjs) off the statement by which the dump's own 'gosem.cut.vars' lays the variable. In a bare row this is a premise. The card (Qxb6615509aDoorCards.lean) ties it to the program's text. -/
def laid_example_com_policy_prover_policy_prover_internal_syntax_reserved {H : Type} : DataW H := .map [(.string [68, 101, 102, 97, 117, 108, 116], .lit (.int .i64 29)), (.string [76, 97, 98, 101, 108], .lit (.int .i64 28)), (.string [80, 114, 105, 110, 99, 105, 112, 97, 108], .lit (.int .i64 27)), (.string [99, 111, 110, 115, 116], .lit (.int .i64 18)), (.string [101, 120, 105, 115, 116, 115], .lit (.int .i64 24)), (.string [102, 97, 108, 115, 101], .lit (.int .i64 26)), (.string [102, 111, 114, 97, 108, 108], .lit (.int .i64 23)), (.string [102, 117, 110], .lit (.int .i64 20)), (.string [107, 101, 121], .lit (.int .i64 21)), (.string [114, 101, 108], .lit (.int .i64 19)), (.string [115, 97, 121, 115], .lit (.int .i64 22)), (.string [115, 111, 114, 116], .lit (.int .i64 17)), (.string [116, 114, 117, 101], .lit (.int .i64 25))]

/-- 'zzlaws_internal_syntax_b1.FnSyntaxIsConstantNameSplitsAtAnyCut': WHATEVER THE INPUT: true; the input reads as it did. -/
def fnSyntaxIsConstantNameSplitsAtAnyCutSpec : ChangeSpec := { name := "fnSyntaxIsConstantNameSplitsAtAnyCut", vars := ["example.com/policy-prover/policy-prover/internal/syntax.reserved"], fn := fun _ => fun
  | [d1, d2, g1] => { results := [.lit (.bool true)], args := [d1, d2], vars := [g1] }
  | _ => none }
def fnSyntaxIsConstantNameSplitsAtAnyCutRow : OpenClaim := { program := "qxb6615509adoor", sum := "4e42383bc33c38752905b77242db002246bdd6e1e4d0651acb7597a5ee37848b", func := "example.com/policy-prover/policy-prover/zzlaws_internal_syntax_b1.FnSyntaxIsConstantNameSplitsAtAnyCut", spec := "fnSyntaxIsConstantNameSplitsAtAnyCut", named := ["example.com/policy-prover/policy-prover/internal/syntax.reserved"], maps := true, apart := false, laid := [("example.com/policy-prover/policy-prover/internal/syntax.reserved", laid_example_com_policy_prover_policy_prover_internal_syntax_reserved)] }
def FnSyntaxIsConstantNameSplitsAtAnyCutSaid : Prop := fnSyntaxIsConstantNameSplitsAtAnyCutRow.holds Tryd.pinned (OpenSpec.ofChange fnSyntaxIsConstantNameSplitsAtAnyCutSpec)

/-- ITS FALSE NEIGHBOUR: 'it returns false'. Refute it at one input. -/
def fnSyntaxIsConstantNameSplitsAtAnyCutWrong : ChangeSpec := { name := "fnSyntaxIsConstantNameSplitsAtAnyCut", vars := ["example.com/policy-prover/policy-prover/internal/syntax.reserved"], fn := fun _ => fun
  | [d1, d2, g1] => { results := [.lit (.bool false)], args := [d1, d2], vars := [g1] }
  | _ => none }
def FnSyntaxIsConstantNameSplitsAtAnyCutWrongFalsely : Prop := fnSyntaxIsConstantNameSplitsAtAnyCutRow.holds Tryd.pinned (OpenSpec.ofChange fnSyntaxIsConstantNameSplitsAtAnyCutWrong)

/-- 'zzlaws_internal_syntax_b1.FnSyntaxIsConstantNameInsertAnywhere': WHATEVER THE INPUT: true; the input reads as it did. -/
def fnSyntaxIsConstantNameInsertAnywhereSpec : ChangeSpec := { name := "fnSyntaxIsConstantNameInsertAnywhere", vars := ["example.com/policy-prover/policy-prover/internal/syntax.reserved"], fn := fun _ => fun
  | [d1, d2, d3, g1] => { results := [.lit (.bool true)], args := [d1, d2, d3], vars := [g1] }
  | _ => none }
def fnSyntaxIsConstantNameInsertAnywhereRow : OpenClaim := { program := "qxb6615509adoor", sum := "4e42383bc33c38752905b77242db002246bdd6e1e4d0651acb7597a5ee37848b", func := "example.com/policy-prover/policy-prover/zzlaws_internal_syntax_b1.FnSyntaxIsConstantNameInsertAnywhere", spec := "fnSyntaxIsConstantNameInsertAnywhere", named := ["example.com/policy-prover/policy-prover/internal/syntax.reserved"], maps := true, apart := false, laid := [("example.com/policy-prover/policy-prover/internal/syntax.reserved", laid_example_com_policy_prover_policy_prover_internal_syntax_reserved)] }
def FnSyntaxIsConstantNameInsertAnywhereSaid : Prop := fnSyntaxIsConstantNameInsertAnywhereRow.holds Tryd.pinned (OpenSpec.ofChange fnSyntaxIsConstantNameInsertAnywhereSpec)

/-- ITS FALSE NEIGHBOUR: 'it returns false'. Refute it at one input. -/
def fnSyntaxIsConstantNameInsertAnywhereWrong : ChangeSpec := { name := "fnSyntaxIsConstantNameInsertAnywhere", vars := ["example.com/policy-prover/policy-prover/internal/syntax.reserved"], fn := fun _ => fun
  | [d1, d2, d3, g1] => { results := [.lit (.bool false)], args := [d1, d2, d3], vars := [g1] }
  | _ => none }
def FnSyntaxIsConstantNameInsertAnywhereWrongFalsely : Prop := fnSyntaxIsConstantNameInsertAnywhereRow.holds Tryd.pinned (OpenSpec.ofChange fnSyntaxIsConstantNameInsertAnywhereWrong)

end Rows
end Go.Proofs.Qxb6615509aDoor
