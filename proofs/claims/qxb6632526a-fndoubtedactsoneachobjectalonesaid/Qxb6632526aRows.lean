/-
  No cell of these rows narrows 'for every input' (looked for: loops, veiled, ifaces, maps, wideKeys, modest, calm, conditions, laid).
  DERIVED. THE GIVEN ROWS OF THIS SEAT. 2 by the template 'for every input the law returns true; each argument reads behind the call as it read before'; 0 by the template 'total and deterministic' (their statements: Qxb6632526aTotals.lean).
  GIVEN WITH THE SEED: the statements are not yours to turn. If you find one false, say at which input.
  Laid BY PROGRAM, IN A SANDBOX (cutbox-rows.mjs): the forced cells as the released guide's own fill.sh prints them over the translation 682a169e05c36495… (all of the seat's roots in one cut). By AI agents, Wed Nov 11 2026. No macro, syntax, notation, axiom, sorry.
-/
import Derived.Test.Qxb6632526aChecked
import GoSem.Claim
import GoSem.ClaimJoined
import GoSem.ClaimMapViews
import Derived.JoinedTies
import Derived.KernelRfl
namespace Go.Proofs.Qxb6632526a
/- THE CELL 'sum', in the pinned program and in every row, IS THE sha256 OF THE DUMP (.gsa) THAT Qxb6632526aProg.lean LOADS. Nothing in Lean hashes anything: it is a label: what it is worth is what the hold of that sum in a sandbox is worth. -/
noncomputable def Try.pinned : Pinned := { name := "qxb6632526a", sum := "682a169e05c36495961c82e8c9e5d7c4bf76cfcb074841088959d7fcd3fb6101", checked := Try.checked }
namespace Rows
def none {H : Type} : Left H := { results := [], args := [] }

/-- 'zzlaws_plan_b1.FnDoubtedDoubtsEveryObjectAndIsIdempotent': WHATEVER THE INPUT: true; the input reads as it did. -/
def fnDoubtedDoubtsEveryObjectAndIsIdempotentSpec : ChangeSpec := { name := "fnDoubtedDoubtsEveryObjectAndIsIdempotent", fn := fun _ => fun
  | [d] => { results := [.lit (.bool true)], args := [d] }
  | _ => none }
def fnDoubtedDoubtsEveryObjectAndIsIdempotentRow : OpenClaim := { program := "qxb6632526a", sum := "682a169e05c36495961c82e8c9e5d7c4bf76cfcb074841088959d7fcd3fb6101", func := "example.com/meshwright/meshwright/zzlaws_plan_b1.FnDoubtedDoubtsEveryObjectAndIsIdempotent", spec := "fnDoubtedDoubtsEveryObjectAndIsIdempotent", unfollowed := true, recurses := true, plainKeys := false, apart := false }
def FnDoubtedDoubtsEveryObjectAndIsIdempotentSaid : Prop := fnDoubtedDoubtsEveryObjectAndIsIdempotentRow.holds Try.pinned (OpenSpec.ofChange fnDoubtedDoubtsEveryObjectAndIsIdempotentSpec)

/-- ITS FALSE NEIGHBOUR: 'it returns false'. Refute it at one input. -/
def fnDoubtedDoubtsEveryObjectAndIsIdempotentWrong : ChangeSpec := { name := "fnDoubtedDoubtsEveryObjectAndIsIdempotent", fn := fun _ => fun
  | [d] => { results := [.lit (.bool false)], args := [d] }
  | _ => none }
def FnDoubtedDoubtsEveryObjectAndIsIdempotentWrongFalsely : Prop := fnDoubtedDoubtsEveryObjectAndIsIdempotentRow.holds Try.pinned (OpenSpec.ofChange fnDoubtedDoubtsEveryObjectAndIsIdempotentWrong)

/-- 'zzlaws_plan_b1.FnDoubtedActsOnEachObjectAlone': WHATEVER THE INPUT: true; the input reads as it did. -/
def fnDoubtedActsOnEachObjectAloneSpec : ChangeSpec := { name := "fnDoubtedActsOnEachObjectAlone", fn := fun _ => fun
  | [d1, d2] => { results := [.lit (.bool true)], args := [d1, d2] }
  | _ => none }
def fnDoubtedActsOnEachObjectAloneRow : OpenClaim := { program := "qxb6632526a", sum := "682a169e05c36495961c82e8c9e5d7c4bf76cfcb074841088959d7fcd3fb6101", func := "example.com/meshwright/meshwright/zzlaws_plan_b1.FnDoubtedActsOnEachObjectAlone", spec := "fnDoubtedActsOnEachObjectAlone", unfollowed := true, recurses := true, plainKeys := false, apart := false }
def FnDoubtedActsOnEachObjectAloneSaid : Prop := fnDoubtedActsOnEachObjectAloneRow.holds Try.pinned (OpenSpec.ofChange fnDoubtedActsOnEachObjectAloneSpec)

/-- ITS FALSE NEIGHBOUR: 'it returns false'. Refute it at one input. -/
def fnDoubtedActsOnEachObjectAloneWrong : ChangeSpec := { name := "fnDoubtedActsOnEachObjectAlone", fn := fun _ => fun
  | [d1, d2] => { results := [.lit (.bool false)], args := [d1, d2] }
  | _ => none }
def FnDoubtedActsOnEachObjectAloneWrongFalsely : Prop := fnDoubtedActsOnEachObjectAloneRow.holds Try.pinned (OpenSpec.ofChange fnDoubtedActsOnEachObjectAloneWrong)

end Rows
end Go.Proofs.Qxb6632526a
