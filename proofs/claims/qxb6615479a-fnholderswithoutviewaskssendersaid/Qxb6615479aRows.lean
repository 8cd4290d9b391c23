/-
  No cell of these rows narrows 'for every input' (looked for: loops, veiled, ifaces, maps, wideKeys, modest, calm, conditions, laid).
  DERIVED. THE GIVEN ROWS OF THIS SEAT. 3 by the template 'for every input the law returns true; each argument reads behind the call as it read before'; 0 by the template 'total and deterministic' (their statements: Qxb6615479aTotals.lean).
  GIVEN WITH THE SEED: the statements are not yours to turn. If you find one false, say at which input.
  Laid BY PROGRAM, IN A SANDBOX (cutbox-rows.mjs): the forced cells as the released guide's own fill.sh prints them over the translation 6f2094ff6d15aa44… (all of the seat's roots in one cut). By AI agents, Wed Nov 11 2026. No macro, syntax, notation, axiom, sorry.
-/
import Derived.Test.Qxb6615479aChecked
import GoSem.Claim
import GoSem.ClaimJoined
import GoSem.ClaimMapViews
import Derived.JoinedTies
import Derived.KernelRfl
namespace Go.Proofs.Qxb6615479a
/- THE CELL 'sum', in the pinned program and in every row, IS THE sha256 OF THE DUMP (.gsa) THAT Qxb6615479aProg.lean LOADS. Nothing in Lean hashes anything: it is a label: what it is worth is what the hold of that sum in a sandbox is worth. -/
noncomputable def Try.pinned : Pinned := { name := "qxb6615479a", sum := "6f2094ff6d15aa44abcb03400281749725593394f9cff6d51eae4fecb4e17c00", checked := Try.checked }
namespace Rows
def none {H : Type} : Left H := { results := [], args := [] }

/-- 'zzlaws_internal_protocol_b1.FnBetterStrictTotalOrder': WHATEVER THE INPUT: true; the input reads as it did. -/
def fnBetterStrictTotalOrderSpec : ChangeSpec := { name := "fnBetterStrictTotalOrder", fn := fun _ => fun
  | [d1, d2, d3, d4] => { results := [.lit (.bool true)], args := [d1, d2, d3, d4] }
  | _ => none }
def fnBetterStrictTotalOrderRow : OpenClaim := { program := "qxb6615479a", sum := "6f2094ff6d15aa44abcb03400281749725593394f9cff6d51eae4fecb4e17c00", func := "example.com/presage/presage/zzlaws_internal_protocol_b1.FnBetterStrictTotalOrder", spec := "fnBetterStrictTotalOrder", plainKeys := false, apart := false }
def FnBetterStrictTotalOrderSaid : Prop := fnBetterStrictTotalOrderRow.holds Try.pinned (OpenSpec.ofChange fnBetterStrictTotalOrderSpec)

/-- ITS FALSE NEIGHBOUR: 'it returns false'. Refute it at one input. -/
def fnBetterStrictTotalOrderWrong : ChangeSpec := { name := "fnBetterStrictTotalOrder", fn := fun _ => fun
  | [d1, d2, d3, d4] => { results := [.lit (.bool false)], args := [d1, d2, d3, d4] }
  | _ => none }
def FnBetterStrictTotalOrderWrongFalsely : Prop := fnBetterStrictTotalOrderRow.holds Try.pinned (OpenSpec.ofChange fnBetterStrictTotalOrderWrong)

/-- 'zzlaws_internal_protocol_b1.FnBetterBestOfThreeIsLatestRoundLeastProposer': WHATEVER THE INPUT: true; the input reads as it did. -/
def fnBetterBestOfThreeIsLatestRoundLeastProposerSpec : ChangeSpec := { name := "fnBetterBestOfThreeIsLatestRoundLeastProposer", fn := fun _ => fun
  | [d1, d2, d3, d4, d5, d6] => { results := [.lit (.bool true)], args := [d1, d2, d3, d4, d5, d6] }
  | _ => none }
def fnBetterBestOfThreeIsLatestRoundLeastProposerRow : OpenClaim := { program := "qxb6615479a", sum := "6f2094ff6d15aa44abcb03400281749725593394f9cff6d51eae4fecb4e17c00", func := "example.com/presage/presage/zzlaws_internal_protocol_b1.FnBetterBestOfThreeIsLatestRoundLeastProposer", spec := "fnBetterBestOfThreeIsLatestRoundLeastProposer", plainKeys := false, apart := false }
def FnBetterBestOfThreeIsLatestRoundLeastProposerSaid : Prop := fnBetterBestOfThreeIsLatestRoundLeastProposerRow.holds Try.pinned (OpenSpec.ofChange fnBetterBestOfThreeIsLatestRoundLeastProposerSpec)

/-- ITS FALSE NEIGHBOUR: 'it returns false'. Refute it at one input. -/
def fnBetterBestOfThreeIsLatestRoundLeastProposerWrong : ChangeSpec := { name := "fnBetterBestOfThreeIsLatestRoundLeastProposer", fn := fun _ => fun
  | [d1, d2, d3, d4, d5, d6] => { results := [.lit (.bool false)], args := [d1, d2, d3, d4, d5, d6] }
  | _ => none }
def FnBetterBestOfThreeIsLatestRoundLeastProposerWrongFalsely : Prop := fnBetterBestOfThreeIsLatestRoundLeastProposerRow.holds Try.pinned (OpenSpec.ofChange fnBetterBestOfThreeIsLatestRoundLeastProposerWrong)

/-- 'zzlaws_internal_protocol_b1.FnHoldersWithoutViewAsksSender': WHATEVER THE INPUT: true; the input reads as it did. -/
def fnHoldersWithoutViewAsksSenderSpec : ChangeSpec := { name := "fnHoldersWithoutViewAsksSender", fn := fun _ => fun
  | [d1, d2, d3, d4, d5] => { results := [.lit (.bool true)], args := [d1, d2, d3, d4, d5] }
  | _ => none }
def fnHoldersWithoutViewAsksSenderRow : OpenClaim := { program := "qxb6615479a", sum := "6f2094ff6d15aa44abcb03400281749725593394f9cff6d51eae4fecb4e17c00", func := "example.com/presage/presage/zzlaws_internal_protocol_b1.FnHoldersWithoutViewAsksSender", spec := "fnHoldersWithoutViewAsksSender", unfollowed := true, recurses := true, plainKeys := false, apart := false }
def FnHoldersWithoutViewAsksSenderSaid : Prop := fnHoldersWithoutViewAsksSenderRow.holds Try.pinned (OpenSpec.ofChange fnHoldersWithoutViewAsksSenderSpec)

/-- ITS FALSE NEIGHBOUR: 'it returns false'. Refute it at one input. -/
def fnHoldersWithoutViewAsksSenderWrong : ChangeSpec := { name := "fnHoldersWithoutViewAsksSender", fn := fun _ => fun
  | [d1, d2, d3, d4, d5] => { results := [.lit (.bool false)], args := [d1, d2, d3, d4, d5] }
  | _ => none }
def FnHoldersWithoutViewAsksSenderWrongFalsely : Prop := fnHoldersWithoutViewAsksSenderRow.holds Try.pinned (OpenSpec.ofChange fnHoldersWithoutViewAsksSenderWrong)

end Rows
end Go.Proofs.Qxb6615479a
