/-
  No cell of these rows narrows 'for every input' (looked for: loops, veiled, ifaces, maps, wideKeys, modest, calm, conditions, laid).
  DERIVED. THE GIVEN ROWS OF THIS SEAT. 2 by the template 'for every input the law returns true; each argument reads behind the call as it read before'; 0 by the template 'total and deterministic' (their statements: Qxb6626491aFmtTotals.lean).
  GIVEN WITH THE SEED: the statements are not yours to turn. If you find one false, say at which input.
  Laid BY PROGRAM, IN A SANDBOX (cutbox-rows.mjs): the forced cells as the released guide's own fill.sh prints them over the translation 3cb54e797888ab10… (all of the seat's roots in one cut). By AI agents, Wed Nov 11 2026. No macro, syntax, notation, axiom, sorry.
-/
import Derived.Test.Qxb6626491aFmtChecked
import GoSem.Claim
import GoSem.ClaimJoined
import GoSem.ClaimMapViews
import Derived.JoinedTies
import Derived.KernelRfl
namespace Go.Proofs.Qxb6626491aFmt
/- THE CELL 'sum', in the pinned program and in every row, IS THE sha256 OF THE DUMP (.gsa) THAT Qxb6626491aFmtProg.lean LOADS. Nothing in Lean hashes anything: it is a label: what it is worth is what the hold of that sum in a sandbox is worth. -/
noncomputable def Tryf.pinned : Pinned := { name := "qxb6626491afmt", sum := "3cb54e797888ab106a296c5c0bf8e3c6562d9868f07388617e4b2eecb9527594", checked := Tryf.checked }
namespace Rows
def none {H : Type} : Left H := { results := [], args := [] }

/-- 'zzlaws_internal_session_b1.FnCheckLabelCutKeepsAcceptance': WHATEVER THE INPUT: true; the input reads as it did. -/
def fnCheckLabelCutKeepsAcceptanceSpec : ChangeSpec := { name := "fnCheckLabelCutKeepsAcceptance", fn := fun _ => fun
  | [d1, d2] => { results := [.lit (.bool true)], args := [d1, d2] }
  | _ => none }
def fnCheckLabelCutKeepsAcceptanceRow : OpenClaim := { program := "qxb6626491afmt", sum := "3cb54e797888ab106a296c5c0bf8e3c6562d9868f07388617e4b2eecb9527594", func := "example.com/unseal/unseal/zzlaws_internal_session_b1.FnCheckLabelCutKeepsAcceptance", spec := "fnCheckLabelCutKeepsAcceptance", stops := ["fmt.errorf"], inPlace := ["fmt.errorf"], apart := false }
/-- NO THEOREM (fmt's text is open here; it may be false): for the released tool's asking of the row's closed facts alone. THE STATEMENT IS 'FnCheckLabelCutKeepsAcceptanceToldSaid' (Qxb6626491aFmtCards.lean). -/
def FnCheckLabelCutKeepsAcceptanceFormAsk : Prop := fnCheckLabelCutKeepsAcceptanceRow.holds Tryf.pinned (OpenSpec.ofChange fnCheckLabelCutKeepsAcceptanceSpec)

/-- ITS FALSE NEIGHBOUR: 'it returns false'. Refute it at one input. -/
def fnCheckLabelCutKeepsAcceptanceWrong : ChangeSpec := { name := "fnCheckLabelCutKeepsAcceptance", fn := fun _ => fun
  | [d1, d2] => { results := [.lit (.bool false)], args := [d1, d2] }
  | _ => none }
def FnCheckLabelCutKeepsAcceptanceWrongFormAsk : Prop := fnCheckLabelCutKeepsAcceptanceRow.holds Tryf.pinned (OpenSpec.ofChange fnCheckLabelCutKeepsAcceptanceWrong)

/-- 'zzlaws_internal_session_b1.FnCheckLabelOneMoreByte': WHATEVER THE INPUT: true; the input reads as it did. -/
def fnCheckLabelOneMoreByteSpec : ChangeSpec := { name := "fnCheckLabelOneMoreByte", fn := fun _ => fun
  | [d1, d2] => { results := [.lit (.bool true)], args := [d1, d2] }
  | _ => none }
def fnCheckLabelOneMoreByteRow : OpenClaim := { program := "qxb6626491afmt", sum := "3cb54e797888ab106a296c5c0bf8e3c6562d9868f07388617e4b2eecb9527594", func := "example.com/unseal/unseal/zzlaws_internal_session_b1.FnCheckLabelOneMoreByte", spec := "fnCheckLabelOneMoreByte", stops := ["fmt.errorf"], inPlace := ["fmt.errorf"], apart := false }
/-- NO THEOREM (fmt's text is open here; it may be false): for the released tool's asking of the row's closed facts alone. THE STATEMENT IS 'FnCheckLabelOneMoreByteToldSaid' (Qxb6626491aFmtCards.lean). -/
def FnCheckLabelOneMoreByteFormAsk : Prop := fnCheckLabelOneMoreByteRow.holds Tryf.pinned (OpenSpec.ofChange fnCheckLabelOneMoreByteSpec)

/-- ITS FALSE NEIGHBOUR: 'it returns false'. Refute it at one input. -/
def fnCheckLabelOneMoreByteWrong : ChangeSpec := { name := "fnCheckLabelOneMoreByte", fn := fun _ => fun
  | [d1, d2] => { results := [.lit (.bool false)], args := [d1, d2] }
  | _ => none }
def FnCheckLabelOneMoreByteWrongFormAsk : Prop := fnCheckLabelOneMoreByteRow.holds Tryf.pinned (OpenSpec.ofChange fnCheckLabelOneMoreByteWrong)

end Rows
end Go.Proofs.Qxb6626491aFmt
