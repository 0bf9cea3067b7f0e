/-
  No cell of these rows narrows 'for every input' (looked for: loops, veiled, ifaces, maps, wideKeys, modest, calm, conditions, laid).
  DERIVED. THE GIVEN ROWS OF THIS SEAT. 2 by the template 'for every input the law returns true; each argument reads behind the call as it read before'; 0 by the template 'total and deterministic' (their statements: Qxb6634828aTotals.lean).
  GIVEN WITH THE SEED: the statements are not yours to turn. If you find one false, say at which input.
  Laid BY PROGRAM, IN A SANDBOX (cutbox-rows.mjs): the forced cells as the released guide's own fill.sh prints them over the translation 98771b3ad9635093… (all of the seat's roots in one cut). By AI agents, Wed Nov 11 2026. No macro, syntax, notation, axiom, sorry.
-/
import Derived.Test.Qxb6634828aChecked
import GoSem.Claim
import GoSem.ClaimJoined
import GoSem.ClaimMapViews
import Derived.JoinedTies
import Derived.KernelRfl
namespace Go.Proofs.Qxb6634828a
/- THE CELL 'sum', in the pinned program and in every row, IS THE sha256 OF THE DUMP (.gsa) THAT Qxb6634828aProg.lean LOADS. Nothing in Lean hashes anything: it is a label: what it is worth is what the hold of that sum in a sandbox is worth. -/
noncomputable def Try.pinned : Pinned := { name := "qxb6634828a", sum := "98771b3ad9635093293fa849a4ceb1603a36f57b2fa4de5ecfc1d701e463ab15", checked := Try.checked }
namespace Rows
def none {H : Type} : Left H := { results := [], args := [] }

/-- 'zzlaws_pkg_meeting_b1.FnVotingSharesCutAgreesWithVoting': WHATEVER THE INPUT: true; the input reads as it did. -/
def fnVotingSharesCutAgreesWithVotingSpec : ChangeSpec := { name := "fnVotingSharesCutAgreesWithVoting", fn := fun _ => fun
  | [d1, d2, d3] => { results := [.lit (.bool true)], args := [d1, d2, d3] }
  | _ => none }
def fnVotingSharesCutAgreesWithVotingRow : OpenClaim := { program := "qxb6634828a", sum := "98771b3ad9635093293fa849a4ceb1603a36f57b2fa4de5ecfc1d701e463ab15", func := "example.com/plenum/plenum/zzlaws_pkg_meeting_b1.FnVotingSharesCutAgreesWithVoting", spec := "fnVotingSharesCutAgreesWithVoting", plainKeys := false, apart := false }
def FnVotingSharesCutAgreesWithVotingSaid : Prop := fnVotingSharesCutAgreesWithVotingRow.holds Try.pinned (OpenSpec.ofChange fnVotingSharesCutAgreesWithVotingSpec)

/-- ITS FALSE NEIGHBOUR: 'it returns false'. Refute it at one input. -/
def fnVotingSharesCutAgreesWithVotingWrong : ChangeSpec := { name := "fnVotingSharesCutAgreesWithVoting", fn := fun _ => fun
  | [d1, d2, d3] => { results := [.lit (.bool false)], args := [d1, d2, d3] }
  | _ => none }
def FnVotingSharesCutAgreesWithVotingWrongFalsely : Prop := fnVotingSharesCutAgreesWithVotingRow.holds Try.pinned (OpenSpec.ofChange fnVotingSharesCutAgreesWithVotingWrong)

/-- 'zzlaws_pkg_meeting_b1.FnVotingSharesInsertOneHolder': WHATEVER THE INPUT: true; the input reads as it did. -/
def fnVotingSharesInsertOneHolderSpec : ChangeSpec := { name := "fnVotingSharesInsertOneHolder", fn := fun _ => fun
  | [d1, d2, d3, d4] => { results := [.lit (.bool true)], args := [d1, d2, d3, d4] }
  | _ => none }
def fnVotingSharesInsertOneHolderRow : OpenClaim := { program := "qxb6634828a", sum := "98771b3ad9635093293fa849a4ceb1603a36f57b2fa4de5ecfc1d701e463ab15", func := "example.com/plenum/plenum/zzlaws_pkg_meeting_b1.FnVotingSharesInsertOneHolder", spec := "fnVotingSharesInsertOneHolder", plainKeys := false, apart := false }
def FnVotingSharesInsertOneHolderSaid : Prop := fnVotingSharesInsertOneHolderRow.holds Try.pinned (OpenSpec.ofChange fnVotingSharesInsertOneHolderSpec)

/-- ITS FALSE NEIGHBOUR: 'it returns false'. Refute it at one input. -/
def fnVotingSharesInsertOneHolderWrong : ChangeSpec := { name := "fnVotingSharesInsertOneHolder", fn := fun _ => fun
  | [d1, d2, d3, d4] => { results := [.lit (.bool false)], args := [d1, d2, d3, d4] }
  | _ => none }
def FnVotingSharesInsertOneHolderWrongFalsely : Prop := fnVotingSharesInsertOneHolderRow.holds Try.pinned (OpenSpec.ofChange fnVotingSharesInsertOneHolderWrong)

end Rows
end Go.Proofs.Qxb6634828a
