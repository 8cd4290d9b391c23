/-
  DERIVED. GIVEN WITH THE SEED: THE CARDS: each row of Qxb6615509aDoorRows.lean that lists a variable, with what it lists TIED to the program's text (the seventh form; the later family's looks); each row that meets fmt, with fmt's text TOLD by the authors' own Lean function (tested against real Go, not proved from fmt's source: count such statements apart). THE CARD IS WHAT COUNTS. Prove the row's statement (the work); the ties are given (Qxb6615509aDoorTie.lean); close each card by the builder's one call (the guide's Derived/Test/ToyasCard.lean, 'card_holds'). Laid BY PROGRAM, IN A SANDBOX (cutbox-door.mjs). By AI agents, Wed Nov 11 2026. No macro, syntax, notation, axiom, sorry.
-/
import Derived.Test.Qxb6615509aDoorRows
import GoSem.ClaimSeven
namespace Go.Proofs.Qxb6615509aDoor
namespace Rows

/-- THE TIED CARD OF 'zzlaws_internal_syntax_b1.FnSyntaxIsConstantNameSplitsAtAnyCut'. -/
def fnSyntaxIsConstantNameSplitsAtAnyCutCard : Claim7 := { stood := { row := fnSyntaxIsConstantNameSplitsAtAnyCutRow, standIns := [], harness := (true, "1d2f204a6ea5e37bb4355e345ca6f93be47f18a841ae4b03d39fe220be52e715"), looks := false }, kinds := [], alts := [], laidByText := true, laidKinds := [.called], laidTests := true, laidLooks := .later }
def FnSyntaxIsConstantNameSplitsAtAnyCutCardSaid : Prop := Claim7.holds Tryd.pinned (.plain (OpenSpec.ofChange fnSyntaxIsConstantNameSplitsAtAnyCutSpec)) fnSyntaxIsConstantNameSplitsAtAnyCutCard

/-- THE TIED CARD OF 'zzlaws_internal_syntax_b1.FnSyntaxIsConstantNameInsertAnywhere'. -/
def fnSyntaxIsConstantNameInsertAnywhereCard : Claim7 := { stood := { row := fnSyntaxIsConstantNameInsertAnywhereRow, standIns := [], harness := (true, "1d2f204a6ea5e37bb4355e345ca6f93be47f18a841ae4b03d39fe220be52e715"), looks := false }, kinds := [], alts := [], laidByText := true, laidKinds := [.called], laidTests := true, laidLooks := .later }
def FnSyntaxIsConstantNameInsertAnywhereCardSaid : Prop := Claim7.holds Tryd.pinned (.plain (OpenSpec.ofChange fnSyntaxIsConstantNameInsertAnywhereSpec)) fnSyntaxIsConstantNameInsertAnywhereCard
end Rows
end Go.Proofs.Qxb6615509aDoor
