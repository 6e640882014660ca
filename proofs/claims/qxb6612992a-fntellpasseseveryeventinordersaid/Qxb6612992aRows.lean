/-
  No cell of these rows narrows 'for every input' (looked for: loops, veiled, ifaces, maps, wideKeys, modest, calm, conditions, laid).
  DERIVED. THE GIVEN ROWS OF THIS SEAT. 1 by the template 'for every input the law returns true; each argument reads behind the call as it read before'; 0 by the template 'total and deterministic' (their statements: Qxb6612992aTotals.lean).
  GIVEN WITH THE SEED: the statements are not yours to turn. If you find one false, say at which input.
  Laid BY PROGRAM, IN A SANDBOX (cutbox-rows.mjs): the forced cells as the released guide's own fill.sh prints them over the translation de5b1f483b8b4cc7… (all of the seat's roots in one cut). By AI agents, Wed Nov 11 2026. No macro, syntax, notation, axiom, sorry.
-/
import Derived.Test.Qxb6612992aChecked
import GoSem.Claim
import GoSem.ClaimJoined
import GoSem.ClaimMapViews
import Derived.JoinedTies
import Derived.KernelRfl
namespace Go.Proofs.Qxb6612992a
/- THE CELL 'sum', in the pinned program and in every row, IS THE sha256 OF THE DUMP (.gsa) THAT Qxb6612992aProg.lean LOADS. Nothing in Lean hashes anything: it is a label: what it is worth is what the hold of that sum in a sandbox is worth. -/
noncomputable def Try.pinned : Pinned := { name := "qxb6612992a", sum := "de5b1f483b8b4cc71084094068dc0a9ce6a63294b57cc56302fcfff56d9d8d16", checked := Try.checked }
namespace Rows
def none {H : Type} : Left H := { results := [], args := [] }

/-- 'zzlaws_doic_b1.FnTellPassesEveryEventInOrder': WHATEVER THE INPUT: true; the input reads as it did. -/
def fnTellPassesEveryEventInOrderSpec : ChangeSpec := { name := "fnTellPassesEveryEventInOrder", fn := fun _ => fun
  | [d] => { results := [.lit (.bool true)], args := [d] }
  | _ => none }
def fnTellPassesEveryEventInOrderRow : OpenClaim := { program := "qxb6612992a", sum := "de5b1f483b8b4cc71084094068dc0a9ce6a63294b57cc56302fcfff56d9d8d16", func := "example.com/weir/weir/zzlaws_doic_b1.FnTellPassesEveryEventInOrder", spec := "fnTellPassesEveryEventInOrder", unfollowed := true, recurses := true, plainKeys := false, apart := false }
def FnTellPassesEveryEventInOrderSaid : Prop := fnTellPassesEveryEventInOrderRow.holds Try.pinned (OpenSpec.ofChange fnTellPassesEveryEventInOrderSpec)

/-- ITS FALSE NEIGHBOUR: 'it returns false'. Refute it at one input. -/
def fnTellPassesEveryEventInOrderWrong : ChangeSpec := { name := "fnTellPassesEveryEventInOrder", fn := fun _ => fun
  | [d] => { results := [.lit (.bool false)], args := [d] }
  | _ => none }
def FnTellPassesEveryEventInOrderWrongFalsely : Prop := fnTellPassesEveryEventInOrderRow.holds Try.pinned (OpenSpec.ofChange fnTellPassesEveryEventInOrderWrong)

end Rows
end Go.Proofs.Qxb6612992a
