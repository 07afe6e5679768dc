/-
  No cell of these rows narrows 'for every input' (looked for: loops, veiled, ifaces, maps, wideKeys, modest, calm, conditions, laid).
  DERIVED. THE GIVEN ROWS OF THIS SEAT. 2 by the template 'for every input the law returns true; each argument reads behind the call as it read before'; 0 by the template 'total and deterministic' (their statements: Qxb6626456aTotals.lean).
  GIVEN WITH THE SEED: the statements are not yours to turn. If you find one false, say at which input.
  Laid BY PROGRAM, IN A SANDBOX (cutbox-rows.mjs): the forced cells as the released guide's own fill.sh prints them over the translation 3bc245aec3fe695b… (all of the seat's roots in one cut). By AI agents, Wed Nov 11 2026. No macro, syntax, notation, axiom, sorry.
-/
import Derived.Test.Qxb6626456aChecked
import GoSem.Claim
import GoSem.ClaimJoined
import GoSem.ClaimMapViews
import Derived.JoinedTies
import Derived.KernelRfl
namespace Go.Proofs.Qxb6626456a
/- THE CELL 'sum', in the pinned program and in every row, IS THE sha256 OF THE DUMP (.gsa) THAT Qxb6626456aProg.lean LOADS. Nothing in Lean hashes anything: it is a label: what it is worth is what the hold of that sum in a sandbox is worth. -/
noncomputable def Try.pinned : Pinned := { name := "qxb6626456a", sum := "3bc245aec3fe695b3dddda78e50516f783ded34aa1fa30313ac5f7e647eff27d", checked := Try.checked }
namespace Rows
def none {H : Type} : Left H := { results := [], args := [] }

/-- 'zzlaws_internal_meta_b1.FnIsLabelValueMatchesAutomaton': WHATEVER THE INPUT: true; the input reads as it did. -/
def fnIsLabelValueMatchesAutomatonSpec : ChangeSpec := { name := "fnIsLabelValueMatchesAutomaton", fn := fun _ => fun
  | [d] => { results := [.lit (.bool true)], args := [d] }
  | _ => none }
def fnIsLabelValueMatchesAutomatonRow : OpenClaim := { program := "qxb6626456a", sum := "3bc245aec3fe695b3dddda78e50516f783ded34aa1fa30313ac5f7e647eff27d", func := "example.com/kindsmith/kindsmith/zzlaws_internal_meta_b1.FnIsLabelValueMatchesAutomaton", spec := "fnIsLabelValueMatchesAutomaton", apart := false }
def FnIsLabelValueMatchesAutomatonSaid : Prop := fnIsLabelValueMatchesAutomatonRow.holds Try.pinned (OpenSpec.ofChange fnIsLabelValueMatchesAutomatonSpec)

/-- ITS FALSE NEIGHBOUR: 'it returns false'. Refute it at one input. -/
def fnIsLabelValueMatchesAutomatonWrong : ChangeSpec := { name := "fnIsLabelValueMatchesAutomaton", fn := fun _ => fun
  | [d] => { results := [.lit (.bool false)], args := [d] }
  | _ => none }
def FnIsLabelValueMatchesAutomatonWrongFalsely : Prop := fnIsLabelValueMatchesAutomatonRow.holds Try.pinned (OpenSpec.ofChange fnIsLabelValueMatchesAutomatonWrong)

/-- 'zzlaws_internal_meta_b1.FnIsLabelValueInsertInterior': WHATEVER THE INPUT: true; the input reads as it did. -/
def fnIsLabelValueInsertInteriorSpec : ChangeSpec := { name := "fnIsLabelValueInsertInterior", fn := fun _ => fun
  | [d1, d2, d3] => { results := [.lit (.bool true)], args := [d1, d2, d3] }
  | _ => none }
def fnIsLabelValueInsertInteriorRow : OpenClaim := { program := "qxb6626456a", sum := "3bc245aec3fe695b3dddda78e50516f783ded34aa1fa30313ac5f7e647eff27d", func := "example.com/kindsmith/kindsmith/zzlaws_internal_meta_b1.FnIsLabelValueInsertInterior", spec := "fnIsLabelValueInsertInterior", apart := false }
def FnIsLabelValueInsertInteriorSaid : Prop := fnIsLabelValueInsertInteriorRow.holds Try.pinned (OpenSpec.ofChange fnIsLabelValueInsertInteriorSpec)

/-- ITS FALSE NEIGHBOUR: 'it returns false'. Refute it at one input. -/
def fnIsLabelValueInsertInteriorWrong : ChangeSpec := { name := "fnIsLabelValueInsertInterior", fn := fun _ => fun
  | [d1, d2, d3] => { results := [.lit (.bool false)], args := [d1, d2, d3] }
  | _ => none }
def FnIsLabelValueInsertInteriorWrongFalsely : Prop := fnIsLabelValueInsertInteriorRow.holds Try.pinned (OpenSpec.ofChange fnIsLabelValueInsertInteriorWrong)

end Rows
end Go.Proofs.Qxb6626456a
