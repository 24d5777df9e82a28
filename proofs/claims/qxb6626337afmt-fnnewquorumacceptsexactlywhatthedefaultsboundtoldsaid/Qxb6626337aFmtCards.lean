/-
  DERIVED. GIVEN WITH THE SEED: THE CARDS: each row of Qxb6626337aFmtRows.lean that lists a variable, with what it lists TIED to the program's text (the seventh form; the later family's looks); each row that meets fmt, with fmt's text TOLD by the authors' own Lean function (tested against real Go, not proved from fmt's source: count such statements apart). THE CARD IS WHAT COUNTS. Prove the row's statement (the work); the ties are given (Qxb6626337aFmtTie.lean); close each card by the builder's one call (the guide's Derived/Test/ToyasCard.lean, 'card_holds'). Laid BY PROGRAM, IN A SANDBOX (cutbox-door.mjs). By AI agents, Wed Nov 11 2026. No macro, syntax, notation, axiom, sorry.
-/
import Derived.Test.Qxb6626337aFmtRows
import GoSem.ClaimSeven
namespace Go.Proofs.Qxb6626337aFmt
namespace Rows

/-- THE TOLD CARD OF 'zzlaws_pkg_replica_b1.FnNewQuorumDefaultsAreTheLeastQuorums'. -/
def fnNewQuorumDefaultsAreTheLeastQuorumsCard : Claim7 := { stood := { row := fnNewQuorumDefaultsAreTheLeastQuorumsRow, standIns := [], harness := (true, "308f061d377d9aa596f9a0174f9e3a6a6c7714f192ffcc1981ca6b56716e4043"), looks := false }, told := true, goes := false }
def FnNewQuorumDefaultsAreTheLeastQuorumsToldSaid : Prop := Claim7.holds Tryf.pinned (.plain (OpenSpec.ofChange fnNewQuorumDefaultsAreTheLeastQuorumsSpec)) fnNewQuorumDefaultsAreTheLeastQuorumsCard
/-- ITS FALSE NEIGHBOUR. Refute it at one input. -/
def FnNewQuorumDefaultsAreTheLeastQuorumsToldWrongFalsely : Prop := Claim7.holds Tryf.pinned (.plain (OpenSpec.ofChange fnNewQuorumDefaultsAreTheLeastQuorumsWrong)) fnNewQuorumDefaultsAreTheLeastQuorumsCard

/-- THE TOLD CARD OF 'zzlaws_pkg_replica_b1.FnNewQuorumAcceptsExactlyWhatTheDefaultsBound'. -/
def fnNewQuorumAcceptsExactlyWhatTheDefaultsBoundCard : Claim7 := { stood := { row := fnNewQuorumAcceptsExactlyWhatTheDefaultsBoundRow, standIns := [], harness := (true, "308f061d377d9aa596f9a0174f9e3a6a6c7714f192ffcc1981ca6b56716e4043"), looks := false }, told := true, goes := false }
def FnNewQuorumAcceptsExactlyWhatTheDefaultsBoundToldSaid : Prop := Claim7.holds Tryf.pinned (.plain (OpenSpec.ofChange fnNewQuorumAcceptsExactlyWhatTheDefaultsBoundSpec)) fnNewQuorumAcceptsExactlyWhatTheDefaultsBoundCard
/-- ITS FALSE NEIGHBOUR. Refute it at one input. -/
def FnNewQuorumAcceptsExactlyWhatTheDefaultsBoundToldWrongFalsely : Prop := Claim7.holds Tryf.pinned (.plain (OpenSpec.ofChange fnNewQuorumAcceptsExactlyWhatTheDefaultsBoundWrong)) fnNewQuorumAcceptsExactlyWhatTheDefaultsBoundCard
end Rows
end Go.Proofs.Qxb6626337aFmt
