/-
  No cell of these rows narrows 'for every input' (looked for: loops, veiled, ifaces, maps, wideKeys, modest, calm, conditions, laid).
  DERIVED. THE GIVEN ROWS OF THIS SEAT. 2 by the template 'for every input the law returns true; each argument reads behind the call as it read before'; 0 by the template 'total and deterministic' (their statements: Qxb6626337aFmtTotals.lean).
  GIVEN WITH THE SEED: the statements are not yours to turn. If you find one false, say at which input.
  Laid BY PROGRAM, IN A SANDBOX (cutbox-rows.mjs): the forced cells as the released guide's own fill.sh prints them over the translation 5c39bcdc472bd4f0… (all of the seat's roots in one cut). By AI agents, Wed Nov 11 2026. No macro, syntax, notation, axiom, sorry.
-/
import Derived.Test.Qxb6626337aFmtChecked
import GoSem.Claim
import GoSem.ClaimJoined
import GoSem.ClaimMapViews
import Derived.JoinedTies
import Derived.KernelRfl
namespace Go.Proofs.Qxb6626337aFmt
/- THE CELL 'sum', in the pinned program and in every row, IS THE sha256 OF THE DUMP (.gsa) THAT Qxb6626337aFmtProg.lean LOADS. Nothing in Lean hashes anything: it is a label: what it is worth is what the hold of that sum in a sandbox is worth. -/
noncomputable def Tryf.pinned : Pinned := { name := "qxb6626337afmt", sum := "5c39bcdc472bd4f030ef4238afd18f861ca10fc92b1d6edd88b8e541dbfbe671", checked := Tryf.checked }
namespace Rows
def none {H : Type} : Left H := { results := [], args := [] }

/-- 'zzlaws_pkg_replica_b1.FnNewQuorumDefaultsAreTheLeastQuorums': WHATEVER THE INPUT: true; the input reads as it did. -/
def fnNewQuorumDefaultsAreTheLeastQuorumsSpec : ChangeSpec := { name := "fnNewQuorumDefaultsAreTheLeastQuorums", fn := fun _ => fun
  | [d] => { results := [.lit (.bool true)], args := [d] }
  | _ => none }
def fnNewQuorumDefaultsAreTheLeastQuorumsRow : OpenClaim := { program := "qxb6626337afmt", sum := "5c39bcdc472bd4f030ef4238afd18f861ca10fc92b1d6edd88b8e541dbfbe671", func := "example.com/keelstone/keelstone/zzlaws_pkg_replica_b1.FnNewQuorumDefaultsAreTheLeastQuorums", spec := "fnNewQuorumDefaultsAreTheLeastQuorums", stops := ["fmt.errorf"], inPlace := ["fmt.errorf"], apart := false }
/-- NO THEOREM (fmt's text is open here; it may be false): for the released tool's asking of the row's closed facts alone. THE STATEMENT IS 'FnNewQuorumDefaultsAreTheLeastQuorumsToldSaid' (Qxb6626337aFmtCards.lean). -/
def FnNewQuorumDefaultsAreTheLeastQuorumsFormAsk : Prop := fnNewQuorumDefaultsAreTheLeastQuorumsRow.holds Tryf.pinned (OpenSpec.ofChange fnNewQuorumDefaultsAreTheLeastQuorumsSpec)

/-- ITS FALSE NEIGHBOUR: 'it returns false'. Refute it at one input. -/
def fnNewQuorumDefaultsAreTheLeastQuorumsWrong : ChangeSpec := { name := "fnNewQuorumDefaultsAreTheLeastQuorums", fn := fun _ => fun
  | [d] => { results := [.lit (.bool false)], args := [d] }
  | _ => none }
def FnNewQuorumDefaultsAreTheLeastQuorumsWrongFormAsk : Prop := fnNewQuorumDefaultsAreTheLeastQuorumsRow.holds Tryf.pinned (OpenSpec.ofChange fnNewQuorumDefaultsAreTheLeastQuorumsWrong)

/-- 'zzlaws_pkg_replica_b1.FnNewQuorumAcceptsExactlyWhatTheDefaultsBound': WHATEVER THE INPUT: true; the input reads as it did. -/
def fnNewQuorumAcceptsExactlyWhatTheDefaultsBoundSpec : ChangeSpec := { name := "fnNewQuorumAcceptsExactlyWhatTheDefaultsBound", fn := fun _ => fun
  | [d1, d2, d3] => { results := [.lit (.bool true)], args := [d1, d2, d3] }
  | _ => none }
def fnNewQuorumAcceptsExactlyWhatTheDefaultsBoundRow : OpenClaim := { program := "qxb6626337afmt", sum := "5c39bcdc472bd4f030ef4238afd18f861ca10fc92b1d6edd88b8e541dbfbe671", func := "example.com/keelstone/keelstone/zzlaws_pkg_replica_b1.FnNewQuorumAcceptsExactlyWhatTheDefaultsBound", spec := "fnNewQuorumAcceptsExactlyWhatTheDefaultsBound", stops := ["fmt.errorf"], inPlace := ["fmt.errorf"], apart := false }
/-- NO THEOREM (fmt's text is open here; it may be false): for the released tool's asking of the row's closed facts alone. THE STATEMENT IS 'FnNewQuorumAcceptsExactlyWhatTheDefaultsBoundToldSaid' (Qxb6626337aFmtCards.lean). -/
def FnNewQuorumAcceptsExactlyWhatTheDefaultsBoundFormAsk : Prop := fnNewQuorumAcceptsExactlyWhatTheDefaultsBoundRow.holds Tryf.pinned (OpenSpec.ofChange fnNewQuorumAcceptsExactlyWhatTheDefaultsBoundSpec)

/-- ITS FALSE NEIGHBOUR: 'it returns false'. Refute it at one input. -/
def fnNewQuorumAcceptsExactlyWhatTheDefaultsBoundWrong : ChangeSpec := { name := "fnNewQuorumAcceptsExactlyWhatTheDefaultsBound", fn := fun _ => fun
  | [d1, d2, d3] => { results := [.lit (.bool false)], args := [d1, d2, d3] }
  | _ => none }
def FnNewQuorumAcceptsExactlyWhatTheDefaultsBoundWrongFormAsk : Prop := fnNewQuorumAcceptsExactlyWhatTheDefaultsBoundRow.holds Tryf.pinned (OpenSpec.ofChange fnNewQuorumAcceptsExactlyWhatTheDefaultsBoundWrong)

end Rows
end Go.Proofs.Qxb6626337aFmt
