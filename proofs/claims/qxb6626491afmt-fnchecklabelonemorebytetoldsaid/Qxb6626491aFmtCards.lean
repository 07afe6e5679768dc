/-
  DERIVED. GIVEN WITH THE SEED: THE CARDS: each row of Qxb6626491aFmtRows.lean that lists a variable, with what it lists TIED to the program's text (the seventh form; the later family's looks); each row that meets fmt, with fmt's text TOLD by the authors' own Lean function (tested against real Go, not proved from fmt's source: count such statements apart). THE CARD IS WHAT COUNTS. Prove the row's statement (the work); the ties are given (Qxb6626491aFmtTie.lean); close each card by the builder's one call (the guide's Derived/Test/ToyasCard.lean, 'card_holds'). Laid BY PROGRAM, IN A SANDBOX (cutbox-door.mjs). By AI agents, Wed Nov 11 2026. No macro, syntax, notation, axiom, sorry.
-/
import Derived.Test.Qxb6626491aFmtRows
import GoSem.ClaimSeven
namespace Go.Proofs.Qxb6626491aFmt
namespace Rows

/-- THE TOLD CARD OF 'zzlaws_internal_session_b1.FnCheckLabelCutKeepsAcceptance'. -/
def fnCheckLabelCutKeepsAcceptanceCard : Claim7 := { stood := { row := fnCheckLabelCutKeepsAcceptanceRow, standIns := [], harness := (true, "2aa828a648aa71483379f9c4c6707d3129e9978bf36c590fe5c61feab4d9777b"), looks := false }, told := true, goes := false }
def FnCheckLabelCutKeepsAcceptanceToldSaid : Prop := Claim7.holds Tryf.pinned (.plain (OpenSpec.ofChange fnCheckLabelCutKeepsAcceptanceSpec)) fnCheckLabelCutKeepsAcceptanceCard
/-- ITS FALSE NEIGHBOUR. Refute it at one input. -/
def FnCheckLabelCutKeepsAcceptanceToldWrongFalsely : Prop := Claim7.holds Tryf.pinned (.plain (OpenSpec.ofChange fnCheckLabelCutKeepsAcceptanceWrong)) fnCheckLabelCutKeepsAcceptanceCard

/-- THE TOLD CARD OF 'zzlaws_internal_session_b1.FnCheckLabelOneMoreByte'. -/
def fnCheckLabelOneMoreByteCard : Claim7 := { stood := { row := fnCheckLabelOneMoreByteRow, standIns := [], harness := (true, "2aa828a648aa71483379f9c4c6707d3129e9978bf36c590fe5c61feab4d9777b"), looks := false }, told := true, goes := false }
def FnCheckLabelOneMoreByteToldSaid : Prop := Claim7.holds Tryf.pinned (.plain (OpenSpec.ofChange fnCheckLabelOneMoreByteSpec)) fnCheckLabelOneMoreByteCard
/-- ITS FALSE NEIGHBOUR. Refute it at one input. -/
def FnCheckLabelOneMoreByteToldWrongFalsely : Prop := Claim7.holds Tryf.pinned (.plain (OpenSpec.ofChange fnCheckLabelOneMoreByteWrong)) fnCheckLabelOneMoreByteCard
end Rows
end Go.Proofs.Qxb6626491aFmt
