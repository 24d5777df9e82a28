/-
  No cell of these rows narrows 'for every input' (looked for: loops, veiled, ifaces, maps, wideKeys, modest, calm, conditions, laid).
  DERIVED. THE GIVEN ROWS OF THIS SEAT. 2 by the template 'for every input the law returns true; each argument reads behind the call as it read before'; 0 by the template 'total and deterministic' (their statements: Qxb6626307aTotals.lean).
  GIVEN WITH THE SEED: the statements are not yours to turn. If you find one false, say at which input.
  Laid BY PROGRAM, IN A SANDBOX (cutbox-rows.mjs): the forced cells as the released guide's own fill.sh prints them over the translation fc2d8bded04ab3be… (all of the seat's roots in one cut). By AI agents, Wed Nov 11 2026. No macro, syntax, notation, axiom, sorry.
-/
import Derived.Test.Qxb6626307aChecked
import GoSem.Claim
import GoSem.ClaimJoined
import GoSem.ClaimMapViews
import Derived.JoinedTies
import Derived.KernelRfl
namespace Go.Proofs.Qxb6626307a
/- THE CELL 'sum', in the pinned program and in every row, IS THE sha256 OF THE DUMP (.gsa) THAT Qxb6626307aProg.lean LOADS. Nothing in Lean hashes anything: it is a label: what it is worth is what the hold of that sum in a sandbox is worth. -/
noncomputable def Try.pinned : Pinned := { name := "qxb6626307a", sum := "fc2d8bded04ab3be1813a409508834c85fcd7629fd6ddcbb4170686fec53d538", checked := Try.checked }
namespace Rows
def none {H : Type} : Left H := { results := [], args := [] }

/-- 'zzlaws_internal_decimal_b1.FnIsDecimalMatchesCharacterGrammarAndSignedForms': WHATEVER THE INPUT: true; the input reads as it did. -/
def fnIsDecimalMatchesCharacterGrammarAndSignedFormsSpec : ChangeSpec := { name := "fnIsDecimalMatchesCharacterGrammarAndSignedForms", fn := fun _ => fun
  | [d] => { results := [.lit (.bool true)], args := [d] }
  | _ => none }
def fnIsDecimalMatchesCharacterGrammarAndSignedFormsRow : OpenClaim := { program := "qxb6626307a", sum := "fc2d8bded04ab3be1813a409508834c85fcd7629fd6ddcbb4170686fec53d538", func := "example.com/vestline/vestline/zzlaws_internal_decimal_b1.FnIsDecimalMatchesCharacterGrammarAndSignedForms", spec := "fnIsDecimalMatchesCharacterGrammarAndSignedForms", apart := false }
def FnIsDecimalMatchesCharacterGrammarAndSignedFormsSaid : Prop := fnIsDecimalMatchesCharacterGrammarAndSignedFormsRow.holds Try.pinned (OpenSpec.ofChange fnIsDecimalMatchesCharacterGrammarAndSignedFormsSpec)

/-- ITS FALSE NEIGHBOUR: 'it returns false'. Refute it at one input. -/
def fnIsDecimalMatchesCharacterGrammarAndSignedFormsWrong : ChangeSpec := { name := "fnIsDecimalMatchesCharacterGrammarAndSignedForms", fn := fun _ => fun
  | [d] => { results := [.lit (.bool false)], args := [d] }
  | _ => none }
def FnIsDecimalMatchesCharacterGrammarAndSignedFormsWrongFalsely : Prop := fnIsDecimalMatchesCharacterGrammarAndSignedFormsRow.holds Try.pinned (OpenSpec.ofChange fnIsDecimalMatchesCharacterGrammarAndSignedFormsWrong)

/-- 'zzlaws_internal_decimal_b1.FnIsDecimalSplitsAtThePoint': WHATEVER THE INPUT: true; the input reads as it did. -/
def fnIsDecimalSplitsAtThePointSpec : ChangeSpec := { name := "fnIsDecimalSplitsAtThePoint", fn := fun _ => fun
  | [d1, d2] => { results := [.lit (.bool true)], args := [d1, d2] }
  | _ => none }
def fnIsDecimalSplitsAtThePointRow : OpenClaim := { program := "qxb6626307a", sum := "fc2d8bded04ab3be1813a409508834c85fcd7629fd6ddcbb4170686fec53d538", func := "example.com/vestline/vestline/zzlaws_internal_decimal_b1.FnIsDecimalSplitsAtThePoint", spec := "fnIsDecimalSplitsAtThePoint", apart := false }
def FnIsDecimalSplitsAtThePointSaid : Prop := fnIsDecimalSplitsAtThePointRow.holds Try.pinned (OpenSpec.ofChange fnIsDecimalSplitsAtThePointSpec)

/-- ITS FALSE NEIGHBOUR: 'it returns false'. Refute it at one input. -/
def fnIsDecimalSplitsAtThePointWrong : ChangeSpec := { name := "fnIsDecimalSplitsAtThePoint", fn := fun _ => fun
  | [d1, d2] => { results := [.lit (.bool false)], args := [d1, d2] }
  | _ => none }
def FnIsDecimalSplitsAtThePointWrongFalsely : Prop := fnIsDecimalSplitsAtThePointRow.holds Try.pinned (OpenSpec.ofChange fnIsDecimalSplitsAtThePointWrong)

end Rows
end Go.Proofs.Qxb6626307a
