/-
  No cell of these rows narrows 'for every input' (looked for: loops, veiled, ifaces, maps, wideKeys, modest, calm, conditions, laid).
  DERIVED. THE GIVEN ROWS OF THIS SEAT. 2 by the template 'for every input the law returns true; each argument reads behind the call as it read before'; 0 by the template 'total and deterministic' (their statements: Qxb6632620aTotals.lean).
  GIVEN WITH THE SEED: the statements are not yours to turn. If you find one false, say at which input.
  Laid BY PROGRAM, IN A SANDBOX (cutbox-rows.mjs): the forced cells as the released guide's own fill.sh prints them over the translation bd648e7c6d14afbf… (all of the seat's roots in one cut). By AI agents, Wed Nov 11 2026. No macro, syntax, notation, axiom, sorry.
-/
import Derived.Test.Qxb6632620aChecked
import GoSem.Claim
import GoSem.ClaimJoined
import GoSem.ClaimMapViews
import Derived.JoinedTies
import Derived.KernelRfl
namespace Go.Proofs.Qxb6632620a
/- THE CELL 'sum', in the pinned program and in every row, IS THE sha256 OF THE DUMP (.gsa) THAT Qxb6632620aProg.lean LOADS. Nothing in Lean hashes anything: it is a label: what it is worth is what the hold of that sum in a sandbox is worth. -/
noncomputable def Try.pinned : Pinned := { name := "qxb6632620a", sum := "bd648e7c6d14afbfb992e47ff27118c05a8c63433775fab267a2fabceb3f9109", checked := Try.checked }
namespace Rows
def none {H : Type} : Left H := { results := [], args := [] }

/-- 'zzlaws_internal_enc_b1.FnUvarintLenIsSevenBitGroups': WHATEVER THE INPUT: true; the input reads as it did. -/
def fnUvarintLenIsSevenBitGroupsSpec : ChangeSpec := { name := "fnUvarintLenIsSevenBitGroups", fn := fun _ => fun
  | [d] => { results := [.lit (.bool true)], args := [d] }
  | _ => none }
def fnUvarintLenIsSevenBitGroupsRow : OpenClaim := { program := "qxb6632620a", sum := "bd648e7c6d14afbfb992e47ff27118c05a8c63433775fab267a2fabceb3f9109", func := "example.com/manyhead/manyhead/zzlaws_internal_enc_b1.FnUvarintLenIsSevenBitGroups", spec := "fnUvarintLenIsSevenBitGroups", apart := false }
def FnUvarintLenIsSevenBitGroupsSaid : Prop := fnUvarintLenIsSevenBitGroupsRow.holds Try.pinned (OpenSpec.ofChange fnUvarintLenIsSevenBitGroupsSpec)

/-- ITS FALSE NEIGHBOUR: 'it returns false'. Refute it at one input. -/
def fnUvarintLenIsSevenBitGroupsWrong : ChangeSpec := { name := "fnUvarintLenIsSevenBitGroups", fn := fun _ => fun
  | [d] => { results := [.lit (.bool false)], args := [d] }
  | _ => none }
def FnUvarintLenIsSevenBitGroupsWrongFalsely : Prop := fnUvarintLenIsSevenBitGroupsRow.holds Try.pinned (OpenSpec.ofChange fnUvarintLenIsSevenBitGroupsWrong)

/-- 'zzlaws_internal_enc_b1.FnUvarintLenSplitsAtAnySevenBitGroup': WHATEVER THE INPUT: true; the input reads as it did. -/
def fnUvarintLenSplitsAtAnySevenBitGroupSpec : ChangeSpec := { name := "fnUvarintLenSplitsAtAnySevenBitGroup", fn := fun _ => fun
  | [d1, d2] => { results := [.lit (.bool true)], args := [d1, d2] }
  | _ => none }
def fnUvarintLenSplitsAtAnySevenBitGroupRow : OpenClaim := { program := "qxb6632620a", sum := "bd648e7c6d14afbfb992e47ff27118c05a8c63433775fab267a2fabceb3f9109", func := "example.com/manyhead/manyhead/zzlaws_internal_enc_b1.FnUvarintLenSplitsAtAnySevenBitGroup", spec := "fnUvarintLenSplitsAtAnySevenBitGroup", apart := false }
def FnUvarintLenSplitsAtAnySevenBitGroupSaid : Prop := fnUvarintLenSplitsAtAnySevenBitGroupRow.holds Try.pinned (OpenSpec.ofChange fnUvarintLenSplitsAtAnySevenBitGroupSpec)

/-- ITS FALSE NEIGHBOUR: 'it returns false'. Refute it at one input. -/
def fnUvarintLenSplitsAtAnySevenBitGroupWrong : ChangeSpec := { name := "fnUvarintLenSplitsAtAnySevenBitGroup", fn := fun _ => fun
  | [d1, d2] => { results := [.lit (.bool false)], args := [d1, d2] }
  | _ => none }
def FnUvarintLenSplitsAtAnySevenBitGroupWrongFalsely : Prop := fnUvarintLenSplitsAtAnySevenBitGroupRow.holds Try.pinned (OpenSpec.ofChange fnUvarintLenSplitsAtAnySevenBitGroupWrong)

end Rows
end Go.Proofs.Qxb6632620a
