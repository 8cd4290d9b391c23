/-
  No cell of these rows narrows 'for every input' (looked for: loops, veiled, ifaces, maps, wideKeys, modest, calm, conditions, laid).
  DERIVED. THE GIVEN ROWS OF THIS SEAT. 1 by the template 'for every input the law returns true; each argument reads behind the call as it read before'; 0 by the template 'total and deterministic' (their statements: Qxb6615892aFmtTotals.lean).
  GIVEN WITH THE SEED: the statements are not yours to turn. If you find one false, say at which input.
  Laid BY PROGRAM, IN A SANDBOX (cutbox-rows.mjs): the forced cells as the released guide's own fill.sh prints them over the translation edb74def41f22d95… (all of the seat's roots in one cut). By AI agents, Wed Nov 11 2026. No macro, syntax, notation, axiom, sorry.
-/
import Derived.Test.Qxb6615892aFmtChecked
import GoSem.Claim
import GoSem.ClaimJoined
import GoSem.ClaimMapViews
import Derived.JoinedTies
import Derived.KernelRfl
namespace Go.Proofs.Qxb6615892aFmt
/- THE CELL 'sum', in the pinned program and in every row, IS THE sha256 OF THE DUMP (.gsa) THAT Qxb6615892aFmtProg.lean LOADS. Nothing in Lean hashes anything: it is a label: what it is worth is what the hold of that sum in a sandbox is worth. -/
noncomputable def Tryf.pinned : Pinned := { name := "qxb6615892afmt", sum := "edb74def41f22d95d9a912c8d0fb71a44173175dabd158e627e6b6845d9a0902", checked := Tryf.checked }
namespace Rows
def none {H : Type} : Left H := { results := [], args := [] }

/-- 'zzlaws_fund_b1.FnInputErrorMessageLastVerbatim': WHATEVER THE INPUT: true; the input reads as it did. -/
def fnInputErrorMessageLastVerbatimSpec : ChangeSpec := { name := "fnInputErrorMessageLastVerbatim", fn := fun _ => fun
  | [d1, d2, d3, d4] => { results := [.lit (.bool true)], args := [d1, d2, d3, d4] }
  | _ => none }
def fnInputErrorMessageLastVerbatimRow : OpenClaim := { program := "qxb6615892afmt", sum := "edb74def41f22d95d9a912c8d0fb71a44173175dabd158e627e6b6845d9a0902", func := "example.com/tuoguan/tuoguan/zzlaws_fund_b1.FnInputErrorMessageLastVerbatim", spec := "fnInputErrorMessageLastVerbatim", stops := ["fmt.Sprintf, its operands' methods called"], inPlace := ["fmt.Sprintf"], unfollowed := true, recurses := true, apart := false }
/-- NO THEOREM (fmt's text is open here; it may be false): for the released tool's asking of the row's closed facts alone. THE STATEMENT IS 'FnInputErrorMessageLastVerbatimToldSaid' (Qxb6615892aFmtCards.lean). -/
def FnInputErrorMessageLastVerbatimFormAsk : Prop := fnInputErrorMessageLastVerbatimRow.holds Tryf.pinned (OpenSpec.ofChange fnInputErrorMessageLastVerbatimSpec)

/-- ITS FALSE NEIGHBOUR: 'it returns false'. Refute it at one input. -/
def fnInputErrorMessageLastVerbatimWrong : ChangeSpec := { name := "fnInputErrorMessageLastVerbatim", fn := fun _ => fun
  | [d1, d2, d3, d4] => { results := [.lit (.bool false)], args := [d1, d2, d3, d4] }
  | _ => none }
def FnInputErrorMessageLastVerbatimWrongFormAsk : Prop := fnInputErrorMessageLastVerbatimRow.holds Tryf.pinned (OpenSpec.ofChange fnInputErrorMessageLastVerbatimWrong)

end Rows
end Go.Proofs.Qxb6615892aFmt
