/-
  No cell of these rows narrows 'for every input' (looked for: loops, veiled, ifaces, maps, wideKeys, modest, calm, conditions, laid).
  DERIVED. THE GIVEN ROWS OF THIS SEAT. 2 by the template 'for every input the law returns true; each argument reads behind the call as it read before'; 0 by the template 'total and deterministic' (their statements: Qxb6626520aTotals.lean).
  GIVEN WITH THE SEED: the statements are not yours to turn. If you find one false, say at which input.
  Laid BY PROGRAM, IN A SANDBOX (cutbox-rows.mjs): the forced cells as the released guide's own fill.sh prints them over the translation d51f184a5826983f… (all of the seat's roots in one cut). By AI agents, Wed Nov 11 2026. No macro, syntax, notation, axiom, sorry.
-/
import Derived.Test.Qxb6626520aChecked
import GoSem.Claim
import GoSem.ClaimJoined
import GoSem.ClaimMapViews
import Derived.JoinedTies
import Derived.KernelRfl
namespace Go.Proofs.Qxb6626520a
/- THE CELL 'sum', in the pinned program and in every row, IS THE sha256 OF THE DUMP (.gsa) THAT Qxb6626520aProg.lean LOADS. Nothing in Lean hashes anything: it is a label: what it is worth is what the hold of that sum in a sandbox is worth. -/
noncomputable def Try.pinned : Pinned := { name := "qxb6626520a", sum := "d51f184a5826983f3ae9aeb4bc46e92f9c900b0e94261e9a95310cb11e8c8664", checked := Try.checked }
namespace Rows
def none {H : Type} : Left H := { results := [], args := [] }

/-- 'zzlaws_root_b1.FnAddRecordsInOrderAndIndexesLastPlace': WHATEVER THE INPUT: true; the input reads as it did. -/
def fnAddRecordsInOrderAndIndexesLastPlaceSpec : ChangeSpec := { name := "fnAddRecordsInOrderAndIndexesLastPlace", fn := fun _ => fun
  | [d] => { results := [.lit (.bool true)], args := [d] }
  | _ => none }
def fnAddRecordsInOrderAndIndexesLastPlaceRow : OpenClaim := { program := "qxb6626520a", sum := "d51f184a5826983f3ae9aeb4bc46e92f9c900b0e94261e9a95310cb11e8c8664", func := "example.com/quorumnest/quorumnest/zzlaws_root_b1.FnAddRecordsInOrderAndIndexesLastPlace", spec := "fnAddRecordsInOrderAndIndexesLastPlace", apart := false }
def FnAddRecordsInOrderAndIndexesLastPlaceSaid : Prop := fnAddRecordsInOrderAndIndexesLastPlaceRow.holds Try.pinned (OpenSpec.ofChange fnAddRecordsInOrderAndIndexesLastPlaceSpec)

/-- ITS FALSE NEIGHBOUR: 'it returns false'. Refute it at one input. -/
def fnAddRecordsInOrderAndIndexesLastPlaceWrong : ChangeSpec := { name := "fnAddRecordsInOrderAndIndexesLastPlace", fn := fun _ => fun
  | [d] => { results := [.lit (.bool false)], args := [d] }
  | _ => none }
def FnAddRecordsInOrderAndIndexesLastPlaceWrongFalsely : Prop := fnAddRecordsInOrderAndIndexesLastPlaceRow.holds Try.pinned (OpenSpec.ofChange fnAddRecordsInOrderAndIndexesLastPlaceWrong)

/-- 'zzlaws_root_b1.FnAddLookupFindsLastRecord': WHATEVER THE INPUT: true; the input reads as it did. -/
def fnAddLookupFindsLastRecordSpec : ChangeSpec := { name := "fnAddLookupFindsLastRecord", fn := fun _ => fun
  | [d1, d2] => { results := [.lit (.bool true)], args := [d1, d2] }
  | _ => none }
def fnAddLookupFindsLastRecordRow : OpenClaim := { program := "qxb6626520a", sum := "d51f184a5826983f3ae9aeb4bc46e92f9c900b0e94261e9a95310cb11e8c8664", func := "example.com/quorumnest/quorumnest/zzlaws_root_b1.FnAddLookupFindsLastRecord", spec := "fnAddLookupFindsLastRecord", apart := false }
def FnAddLookupFindsLastRecordSaid : Prop := fnAddLookupFindsLastRecordRow.holds Try.pinned (OpenSpec.ofChange fnAddLookupFindsLastRecordSpec)

/-- ITS FALSE NEIGHBOUR: 'it returns false'. Refute it at one input. -/
def fnAddLookupFindsLastRecordWrong : ChangeSpec := { name := "fnAddLookupFindsLastRecord", fn := fun _ => fun
  | [d1, d2] => { results := [.lit (.bool false)], args := [d1, d2] }
  | _ => none }
def FnAddLookupFindsLastRecordWrongFalsely : Prop := fnAddLookupFindsLastRecordRow.holds Try.pinned (OpenSpec.ofChange fnAddLookupFindsLastRecordWrong)

end Rows
end Go.Proofs.Qxb6626520a
