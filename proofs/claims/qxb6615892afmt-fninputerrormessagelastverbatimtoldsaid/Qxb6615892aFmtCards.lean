/-
  DERIVED. GIVEN WITH THE SEED: THE CARDS: each row of Qxb6615892aFmtRows.lean that lists a variable, with what it lists TIED to the program's text (the seventh form; the later family's looks); each row that meets fmt, with fmt's text TOLD by the authors' own Lean function (tested against real Go, not proved from fmt's source: count such statements apart). THE CARD IS WHAT COUNTS. Prove the row's statement (the work); the ties are given (Qxb6615892aFmtTie.lean); close each card by the builder's one call (the guide's Derived/Test/ToyasCard.lean, 'card_holds'). Laid BY PROGRAM, IN A SANDBOX (cutbox-door.mjs). By AI agents, Wed Nov 11 2026. No macro, syntax, notation, axiom, sorry.
-/
import Derived.Test.Qxb6615892aFmtRows
import GoSem.ClaimSeven
namespace Go.Proofs.Qxb6615892aFmt
namespace Rows

/-- THE TOLD CARD OF 'zzlaws_fund_b1.FnInputErrorMessageLastVerbatim'. -/
def fnInputErrorMessageLastVerbatimCard : Claim7 := { stood := { row := fnInputErrorMessageLastVerbatimRow, standIns := [], harness := (true, "2b72986a585aac85d62dec2bfe7b59aeec2ff7ac3eeb5a31c09d558730f04f98"), looks := false }, told := true, goes := false }
def FnInputErrorMessageLastVerbatimToldSaid : Prop := Claim7.holds Tryf.pinned (.plain (OpenSpec.ofChange fnInputErrorMessageLastVerbatimSpec)) fnInputErrorMessageLastVerbatimCard
/-- ITS FALSE NEIGHBOUR. Refute it at one input. -/
def FnInputErrorMessageLastVerbatimToldWrongFalsely : Prop := Claim7.holds Tryf.pinned (.plain (OpenSpec.ofChange fnInputErrorMessageLastVerbatimWrong)) fnInputErrorMessageLastVerbatimCard
end Rows
end Go.Proofs.Qxb6615892aFmt
