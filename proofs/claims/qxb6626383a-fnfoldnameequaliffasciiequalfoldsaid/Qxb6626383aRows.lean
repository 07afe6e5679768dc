/-
  No cell of these rows narrows 'for every input' (looked for: loops, veiled, ifaces, maps, wideKeys, modest, calm, conditions, laid).
  DERIVED. THE GIVEN ROWS OF THIS SEAT. 2 by the template 'for every input the law returns true; each argument reads behind the call as it read before'; 0 by the template 'total and deterministic' (their statements: Qxb6626383aTotals.lean).
  GIVEN WITH THE SEED: the statements are not yours to turn. If you find one false, say at which input.
  Laid BY PROGRAM, IN A SANDBOX (cutbox-rows.mjs): the forced cells as the released guide's own fill.sh prints them over the translation 64e4436de321a218… (all of the seat's roots in one cut). By AI agents, Wed Nov 11 2026. No macro, syntax, notation, axiom, sorry.
-/
import Derived.Test.Qxb6626383aChecked
import GoSem.Claim
import GoSem.ClaimJoined
import GoSem.ClaimMapViews
import Derived.JoinedTies
import Derived.KernelRfl
namespace Go.Proofs.Qxb6626383a
/- THE CELL 'sum', in the pinned program and in every row, IS THE sha256 OF THE DUMP (.gsa) THAT Qxb6626383aProg.lean LOADS. Nothing in Lean hashes anything: it is a label: what it is worth is what the hold of that sum in a sandbox is worth. -/
noncomputable def Try.pinned : Pinned := { name := "qxb6626383a", sum := "64e4436de321a218c894388281e141ef40c3c3d82fbdc923a8d51955b4630d1c", checked := Try.checked }
namespace Rows
def none {H : Type} : Left H := { results := [], args := [] }

/-- 'zzlaws_internal_sqlparse_b1.FnFoldNameIsCaseBlindLowering': WHATEVER THE INPUT: true; the input reads as it did. -/
def fnFoldNameIsCaseBlindLoweringSpec : ChangeSpec := { name := "fnFoldNameIsCaseBlindLowering", fn := fun _ => fun
  | [d] => { results := [.lit (.bool true)], args := [d] }
  | _ => none }
def fnFoldNameIsCaseBlindLoweringRow : OpenClaim := { program := "qxb6626383a", sum := "64e4436de321a218c894388281e141ef40c3c3d82fbdc923a8d51955b4630d1c", func := "example.com/nextkey/nextkey/zzlaws_internal_sqlparse_b1.FnFoldNameIsCaseBlindLowering", spec := "fnFoldNameIsCaseBlindLowering", apart := false }
def FnFoldNameIsCaseBlindLoweringSaid : Prop := fnFoldNameIsCaseBlindLoweringRow.holds Try.pinned (OpenSpec.ofChange fnFoldNameIsCaseBlindLoweringSpec)

/-- ITS FALSE NEIGHBOUR: 'it returns false'. Refute it at one input. -/
def fnFoldNameIsCaseBlindLoweringWrong : ChangeSpec := { name := "fnFoldNameIsCaseBlindLowering", fn := fun _ => fun
  | [d] => { results := [.lit (.bool false)], args := [d] }
  | _ => none }
def FnFoldNameIsCaseBlindLoweringWrongFalsely : Prop := fnFoldNameIsCaseBlindLoweringRow.holds Try.pinned (OpenSpec.ofChange fnFoldNameIsCaseBlindLoweringWrong)

/-- 'zzlaws_internal_sqlparse_b1.FnFoldNameEqualIffASCIIEqualFold': WHATEVER THE INPUT: true; the input reads as it did. -/
def fnFoldNameEqualIffASCIIEqualFoldSpec : ChangeSpec := { name := "fnFoldNameEqualIffASCIIEqualFold", fn := fun _ => fun
  | [d1, d2] => { results := [.lit (.bool true)], args := [d1, d2] }
  | _ => none }
def fnFoldNameEqualIffASCIIEqualFoldRow : OpenClaim := { program := "qxb6626383a", sum := "64e4436de321a218c894388281e141ef40c3c3d82fbdc923a8d51955b4630d1c", func := "example.com/nextkey/nextkey/zzlaws_internal_sqlparse_b1.FnFoldNameEqualIffASCIIEqualFold", spec := "fnFoldNameEqualIffASCIIEqualFold", apart := false }
def FnFoldNameEqualIffASCIIEqualFoldSaid : Prop := fnFoldNameEqualIffASCIIEqualFoldRow.holds Try.pinned (OpenSpec.ofChange fnFoldNameEqualIffASCIIEqualFoldSpec)

/-- ITS FALSE NEIGHBOUR: 'it returns false'. Refute it at one input. -/
def fnFoldNameEqualIffASCIIEqualFoldWrong : ChangeSpec := { name := "fnFoldNameEqualIffASCIIEqualFold", fn := fun _ => fun
  | [d1, d2] => { results := [.lit (.bool false)], args := [d1, d2] }
  | _ => none }
def FnFoldNameEqualIffASCIIEqualFoldWrongFalsely : Prop := fnFoldNameEqualIffASCIIEqualFoldRow.holds Try.pinned (OpenSpec.ofChange fnFoldNameEqualIffASCIIEqualFoldWrong)

end Rows
end Go.Proofs.Qxb6626383a
