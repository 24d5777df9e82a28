/-
  No cell of these rows narrows 'for every input' (looked for: loops, veiled, ifaces, maps, wideKeys, modest, calm, conditions, laid).
  DERIVED. THE GIVEN ROWS OF THIS SEAT. 2 by the template 'for every input the law returns true; each argument reads behind the call as it read before'; 0 by the template 'total and deterministic' (their statements: Qxb6626480aTotals.lean).
  GIVEN WITH THE SEED: the statements are not yours to turn. If you find one false, say at which input.
  Laid BY PROGRAM, IN A SANDBOX (cutbox-rows.mjs): the forced cells as the released guide's own fill.sh prints them over the translation e14e033d1cae53b9… (all of the seat's roots in one cut). By AI agents, Wed Nov 11 2026. No macro, syntax, notation, axiom, sorry.
-/
import Derived.Test.Qxb6626480aChecked
import GoSem.Claim
import GoSem.ClaimJoined
import GoSem.ClaimMapViews
import Derived.JoinedTies
import Derived.KernelRfl
namespace Go.Proofs.Qxb6626480a
/- THE CELL 'sum', in the pinned program and in every row, IS THE sha256 OF THE DUMP (.gsa) THAT Qxb6626480aProg.lean LOADS. Nothing in Lean hashes anything: it is a label: what it is worth is what the hold of that sum in a sandbox is worth. -/
noncomputable def Try.pinned : Pinned := { name := "qxb6626480a", sum := "e14e033d1cae53b9026cadf07fc34dcb20aca308ac3df8a90c256d7a63820f96", checked := Try.checked }
namespace Rows
def none {H : Type} : Left H := { results := [], args := [] }

/-- 'zzlaws_diameter_b1.FnFindAllInsertOne': WHATEVER THE INPUT: true; the input reads as it did. -/
def fnFindAllInsertOneSpec : ChangeSpec := { name := "fnFindAllInsertOne", fn := fun _ => fun
  | [d1, d2, d3, d4, d5] => { results := [.lit (.bool true)], args := [d1, d2, d3, d4, d5] }
  | _ => none }
def fnFindAllInsertOneRow : OpenClaim := { program := "qxb6626480a", sum := "e14e033d1cae53b9026cadf07fc34dcb20aca308ac3df8a90c256d7a63820f96", func := "example.com/waystation/waystation/zzlaws_diameter_b1.FnFindAllInsertOne", spec := "fnFindAllInsertOne", apart := false }
def FnFindAllInsertOneSaid : Prop := fnFindAllInsertOneRow.holds Try.pinned (OpenSpec.ofChange fnFindAllInsertOneSpec)

/-- ITS FALSE NEIGHBOUR: 'it returns false'. Refute it at one input. -/
def fnFindAllInsertOneWrong : ChangeSpec := { name := "fnFindAllInsertOne", fn := fun _ => fun
  | [d1, d2, d3, d4, d5] => { results := [.lit (.bool false)], args := [d1, d2, d3, d4, d5] }
  | _ => none }
def FnFindAllInsertOneWrongFalsely : Prop := fnFindAllInsertOneRow.holds Try.pinned (OpenSpec.ofChange fnFindAllInsertOneWrong)

/-- 'zzlaws_diameter_b1.FnFindAllPartitionsBaseAVPs': WHATEVER THE INPUT: true; the input reads as it did. -/
def fnFindAllPartitionsBaseAVPsSpec : ChangeSpec := { name := "fnFindAllPartitionsBaseAVPs", fn := fun _ => fun
  | [d1, d2, d3] => { results := [.lit (.bool true)], args := [d1, d2, d3] }
  | _ => none }
def fnFindAllPartitionsBaseAVPsRow : OpenClaim := { program := "qxb6626480a", sum := "e14e033d1cae53b9026cadf07fc34dcb20aca308ac3df8a90c256d7a63820f96", func := "example.com/waystation/waystation/zzlaws_diameter_b1.FnFindAllPartitionsBaseAVPs", spec := "fnFindAllPartitionsBaseAVPs", apart := false }
def FnFindAllPartitionsBaseAVPsSaid : Prop := fnFindAllPartitionsBaseAVPsRow.holds Try.pinned (OpenSpec.ofChange fnFindAllPartitionsBaseAVPsSpec)

/-- ITS FALSE NEIGHBOUR: 'it returns false'. Refute it at one input. -/
def fnFindAllPartitionsBaseAVPsWrong : ChangeSpec := { name := "fnFindAllPartitionsBaseAVPs", fn := fun _ => fun
  | [d1, d2, d3] => { results := [.lit (.bool false)], args := [d1, d2, d3] }
  | _ => none }
def FnFindAllPartitionsBaseAVPsWrongFalsely : Prop := fnFindAllPartitionsBaseAVPsRow.holds Try.pinned (OpenSpec.ofChange fnFindAllPartitionsBaseAVPsWrong)

end Rows
end Go.Proofs.Qxb6626480a
