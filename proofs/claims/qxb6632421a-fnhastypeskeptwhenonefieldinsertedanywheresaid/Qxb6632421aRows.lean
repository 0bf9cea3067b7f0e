/-
  No cell of these rows narrows 'for every input' (looked for: loops, veiled, ifaces, maps, wideKeys, modest, calm, conditions, laid).
  DERIVED. THE GIVEN ROWS OF THIS SEAT. 2 by the template 'for every input the law returns true; each argument reads behind the call as it read before'; 0 by the template 'total and deterministic' (their statements: Qxb6632421aTotals.lean).
  GIVEN WITH THE SEED: the statements are not yours to turn. If you find one false, say at which input.
  Laid BY PROGRAM, IN A SANDBOX (cutbox-rows.mjs): the forced cells as the released guide's own fill.sh prints them over the translation 4d90a3a9f221c328… (all of the seat's roots in one cut). By AI agents, Wed Nov 11 2026. No macro, syntax, notation, axiom, sorry.
-/
import Derived.Test.Qxb6632421aChecked
import GoSem.Claim
import GoSem.ClaimJoined
import GoSem.ClaimMapViews
import Derived.JoinedTies
import Derived.KernelRfl
namespace Go.Proofs.Qxb6632421a
/- THE CELL 'sum', in the pinned program and in every row, IS THE sha256 OF THE DUMP (.gsa) THAT Qxb6632421aProg.lean LOADS. Nothing in Lean hashes anything: it is a label: what it is worth is what the hold of that sum in a sandbox is worth. -/
noncomputable def Try.pinned : Pinned := { name := "qxb6632421a", sum := "4d90a3a9f221c328babd2c20c2e53a08364ffb9a0ec232055b60bacd20337a3e", checked := Try.checked }
namespace Rows
def none {H : Type} : Left H := { results := [], args := [] }

/-- 'zzlaws_entry_b1.FnHasTypesSplitsAtAnyCut': WHATEVER THE INPUT: true; the input reads as it did. -/
def fnHasTypesSplitsAtAnyCutSpec : ChangeSpec := { name := "fnHasTypesSplitsAtAnyCut", fn := fun _ => fun
  | [d1, d2, d3] => { results := [.lit (.bool true)], args := [d1, d2, d3] }
  | _ => none }
def fnHasTypesSplitsAtAnyCutRow : OpenClaim := { program := "qxb6632421a", sum := "4d90a3a9f221c328babd2c20c2e53a08364ffb9a0ec232055b60bacd20337a3e", func := "example.com/lexiform/lexiform/zzlaws_entry_b1.FnHasTypesSplitsAtAnyCut", spec := "fnHasTypesSplitsAtAnyCut", apart := false }
def FnHasTypesSplitsAtAnyCutSaid : Prop := fnHasTypesSplitsAtAnyCutRow.holds Try.pinned (OpenSpec.ofChange fnHasTypesSplitsAtAnyCutSpec)

/-- ITS FALSE NEIGHBOUR: 'it returns false'. Refute it at one input. -/
def fnHasTypesSplitsAtAnyCutWrong : ChangeSpec := { name := "fnHasTypesSplitsAtAnyCut", fn := fun _ => fun
  | [d1, d2, d3] => { results := [.lit (.bool false)], args := [d1, d2, d3] }
  | _ => none }
def FnHasTypesSplitsAtAnyCutWrongFalsely : Prop := fnHasTypesSplitsAtAnyCutRow.holds Try.pinned (OpenSpec.ofChange fnHasTypesSplitsAtAnyCutWrong)

/-- 'zzlaws_entry_b1.FnHasTypesKeptWhenOneFieldInsertedAnywhere': WHATEVER THE INPUT: true; the input reads as it did. -/
def fnHasTypesKeptWhenOneFieldInsertedAnywhereSpec : ChangeSpec := { name := "fnHasTypesKeptWhenOneFieldInsertedAnywhere", fn := fun _ => fun
  | [d1, d2, d3, d4] => { results := [.lit (.bool true)], args := [d1, d2, d3, d4] }
  | _ => none }
def fnHasTypesKeptWhenOneFieldInsertedAnywhereRow : OpenClaim := { program := "qxb6632421a", sum := "4d90a3a9f221c328babd2c20c2e53a08364ffb9a0ec232055b60bacd20337a3e", func := "example.com/lexiform/lexiform/zzlaws_entry_b1.FnHasTypesKeptWhenOneFieldInsertedAnywhere", spec := "fnHasTypesKeptWhenOneFieldInsertedAnywhere", apart := false }
def FnHasTypesKeptWhenOneFieldInsertedAnywhereSaid : Prop := fnHasTypesKeptWhenOneFieldInsertedAnywhereRow.holds Try.pinned (OpenSpec.ofChange fnHasTypesKeptWhenOneFieldInsertedAnywhereSpec)

/-- ITS FALSE NEIGHBOUR: 'it returns false'. Refute it at one input. -/
def fnHasTypesKeptWhenOneFieldInsertedAnywhereWrong : ChangeSpec := { name := "fnHasTypesKeptWhenOneFieldInsertedAnywhere", fn := fun _ => fun
  | [d1, d2, d3, d4] => { results := [.lit (.bool false)], args := [d1, d2, d3, d4] }
  | _ => none }
def FnHasTypesKeptWhenOneFieldInsertedAnywhereWrongFalsely : Prop := fnHasTypesKeptWhenOneFieldInsertedAnywhereRow.holds Try.pinned (OpenSpec.ofChange fnHasTypesKeptWhenOneFieldInsertedAnywhereWrong)

end Rows
end Go.Proofs.Qxb6632421a
