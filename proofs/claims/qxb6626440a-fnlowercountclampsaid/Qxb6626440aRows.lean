/-
  No cell of these rows narrows 'for every input' (looked for: loops, veiled, ifaces, maps, wideKeys, modest, calm, conditions, laid).
  DERIVED. THE GIVEN ROWS OF THIS SEAT. 2 by the template 'for every input the law returns true; each argument reads behind the call as it read before'; 0 by the template 'total and deterministic' (their statements: Qxb6626440aTotals.lean).
  GIVEN WITH THE SEED: the statements are not yours to turn. If you find one false, say at which input.
  Laid BY PROGRAM, IN A SANDBOX (cutbox-rows.mjs): the forced cells as the released guide's own fill.sh prints them over the translation ebd096b45bee86ab… (all of the seat's roots in one cut). By AI agents, Wed Nov 11 2026. No macro, syntax, notation, axiom, sorry.
-/
import Derived.Test.Qxb6626440aChecked
import GoSem.Claim
import GoSem.ClaimJoined
import GoSem.ClaimMapViews
import Derived.JoinedTies
import Derived.KernelRfl
namespace Go.Proofs.Qxb6626440a
/- THE CELL 'sum', in the pinned program and in every row, IS THE sha256 OF THE DUMP (.gsa) THAT Qxb6626440aProg.lean LOADS. Nothing in Lean hashes anything: it is a label: what it is worth is what the hold of that sum in a sandbox is worth. -/
noncomputable def Try.pinned : Pinned := { name := "qxb6626440a", sum := "ebd096b45bee86ab11943dccb7b1629aa1666d2e1edc50b9c74db465698ba3f4", checked := Try.checked }
namespace Rows
def none {H : Type} : Left H := { results := [], args := [] }

/-- 'zzlaws_root_b1.FnLowerRestartRules': WHATEVER THE INPUT: true; the input reads as it did. -/
def fnLowerRestartRulesSpec : ChangeSpec := { name := "fnLowerRestartRules", fn := fun _ => fun
  | [d1, d2, d3, d4, d5, d6, d7, d8, d9] => { results := [.lit (.bool true)], args := [d1, d2, d3, d4, d5, d6, d7, d8, d9] }
  | _ => none }
def fnLowerRestartRulesRow : OpenClaim := { program := "qxb6626440a", sum := "ebd096b45bee86ab11943dccb7b1629aa1666d2e1edc50b9c74db465698ba3f4", func := "example.com/geduld/geduld/zzlaws_root_b1.FnLowerRestartRules", spec := "fnLowerRestartRules", apart := false }
def FnLowerRestartRulesSaid : Prop := fnLowerRestartRulesRow.holds Try.pinned (OpenSpec.ofChange fnLowerRestartRulesSpec)

/-- ITS FALSE NEIGHBOUR: 'it returns false'. Refute it at one input. -/
def fnLowerRestartRulesWrong : ChangeSpec := { name := "fnLowerRestartRules", fn := fun _ => fun
  | [d1, d2, d3, d4, d5, d6, d7, d8, d9] => { results := [.lit (.bool false)], args := [d1, d2, d3, d4, d5, d6, d7, d8, d9] }
  | _ => none }
def FnLowerRestartRulesWrongFalsely : Prop := fnLowerRestartRulesRow.holds Try.pinned (OpenSpec.ofChange fnLowerRestartRulesWrong)

/-- 'zzlaws_root_b1.FnLowerCountClamp': WHATEVER THE INPUT: true; the input reads as it did. -/
def fnLowerCountClampSpec : ChangeSpec := { name := "fnLowerCountClamp", fn := fun _ => fun
  | [d1, d2, d3, d4, d5, d6, d7, d8] => { results := [.lit (.bool true)], args := [d1, d2, d3, d4, d5, d6, d7, d8] }
  | _ => none }
def fnLowerCountClampRow : OpenClaim := { program := "qxb6626440a", sum := "ebd096b45bee86ab11943dccb7b1629aa1666d2e1edc50b9c74db465698ba3f4", func := "example.com/geduld/geduld/zzlaws_root_b1.FnLowerCountClamp", spec := "fnLowerCountClamp", apart := false }
def FnLowerCountClampSaid : Prop := fnLowerCountClampRow.holds Try.pinned (OpenSpec.ofChange fnLowerCountClampSpec)

/-- ITS FALSE NEIGHBOUR: 'it returns false'. Refute it at one input. -/
def fnLowerCountClampWrong : ChangeSpec := { name := "fnLowerCountClamp", fn := fun _ => fun
  | [d1, d2, d3, d4, d5, d6, d7, d8] => { results := [.lit (.bool false)], args := [d1, d2, d3, d4, d5, d6, d7, d8] }
  | _ => none }
def FnLowerCountClampWrongFalsely : Prop := fnLowerCountClampRow.holds Try.pinned (OpenSpec.ofChange fnLowerCountClampWrong)

end Rows
end Go.Proofs.Qxb6626440a
