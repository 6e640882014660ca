/-
  No cell of these rows narrows 'for every input' (looked for: loops, veiled, ifaces, maps, wideKeys, modest, calm, conditions, laid).
  DERIVED. THE GIVEN ROWS OF THIS SEAT. 2 by the template 'for every input the law returns true; each argument reads behind the call as it read before'; 0 by the template 'total and deterministic' (their statements: Qxb6612919aTotals.lean).
  GIVEN WITH THE SEED: the statements are not yours to turn. If you find one false, say at which input.
  Laid BY PROGRAM, IN A SANDBOX (cutbox-rows.mjs): the forced cells as the released guide's own fill.sh prints them over the translation eb4f8a4172f5c04b… (all of the seat's roots in one cut). By AI agents, Wed Nov 11 2026. No macro, syntax, notation, axiom, sorry.
-/
import Derived.Test.Qxb6612919aChecked
import GoSem.Claim
import GoSem.ClaimJoined
import GoSem.ClaimMapViews
import Derived.JoinedTies
import Derived.KernelRfl
namespace Go.Proofs.Qxb6612919a
/- THE CELL 'sum', in the pinned program and in every row, IS THE sha256 OF THE DUMP (.gsa) THAT Qxb6612919aProg.lean LOADS. Nothing in Lean hashes anything: it is a label: what it is worth is what the hold of that sum in a sandbox is worth. -/
noncomputable def Try.pinned : Pinned := { name := "qxb6612919a", sum := "eb4f8a4172f5c04bb458eab39efd2a8d5c6e398ffc7e1083e0bfd85de7240b25", checked := Try.checked }
namespace Rows
def none {H : Type} : Left H := { results := [], args := [] }

/-- 'zzlaws_internal_engine_b1.FnFirstLiesInItsSlot': WHATEVER THE INPUT: true; the input reads as it did. -/
def fnFirstLiesInItsSlotSpec : ChangeSpec := { name := "fnFirstLiesInItsSlot", fn := fun _ => fun
  | [d1, d2] => { results := [.lit (.bool true)], args := [d1, d2] }
  | _ => none }
def fnFirstLiesInItsSlotRow : OpenClaim := { program := "qxb6612919a", sum := "eb4f8a4172f5c04bb458eab39efd2a8d5c6e398ffc7e1083e0bfd85de7240b25", func := "example.com/countercheck/countercheck/zzlaws_internal_engine_b1.FnFirstLiesInItsSlot", spec := "fnFirstLiesInItsSlot", apart := false }
def FnFirstLiesInItsSlotSaid : Prop := fnFirstLiesInItsSlotRow.holds Try.pinned (OpenSpec.ofChange fnFirstLiesInItsSlotSpec)

/-- ITS FALSE NEIGHBOUR: 'it returns false'. Refute it at one input. -/
def fnFirstLiesInItsSlotWrong : ChangeSpec := { name := "fnFirstLiesInItsSlot", fn := fun _ => fun
  | [d1, d2] => { results := [.lit (.bool false)], args := [d1, d2] }
  | _ => none }
def FnFirstLiesInItsSlotWrongFalsely : Prop := fnFirstLiesInItsSlotRow.holds Try.pinned (OpenSpec.ofChange fnFirstLiesInItsSlotWrong)

/-- 'zzlaws_internal_engine_b1.FnFirstDoubledSlots': WHATEVER THE INPUT: true; the input reads as it did. -/
def fnFirstDoubledSlotsSpec : ChangeSpec := { name := "fnFirstDoubledSlots", fn := fun _ => fun
  | [d1, d2] => { results := [.lit (.bool true)], args := [d1, d2] }
  | _ => none }
def fnFirstDoubledSlotsRow : OpenClaim := { program := "qxb6612919a", sum := "eb4f8a4172f5c04bb458eab39efd2a8d5c6e398ffc7e1083e0bfd85de7240b25", func := "example.com/countercheck/countercheck/zzlaws_internal_engine_b1.FnFirstDoubledSlots", spec := "fnFirstDoubledSlots", apart := false }
def FnFirstDoubledSlotsSaid : Prop := fnFirstDoubledSlotsRow.holds Try.pinned (OpenSpec.ofChange fnFirstDoubledSlotsSpec)

/-- ITS FALSE NEIGHBOUR: 'it returns false'. Refute it at one input. -/
def fnFirstDoubledSlotsWrong : ChangeSpec := { name := "fnFirstDoubledSlots", fn := fun _ => fun
  | [d1, d2] => { results := [.lit (.bool false)], args := [d1, d2] }
  | _ => none }
def FnFirstDoubledSlotsWrongFalsely : Prop := fnFirstDoubledSlotsRow.holds Try.pinned (OpenSpec.ofChange fnFirstDoubledSlotsWrong)

end Rows
end Go.Proofs.Qxb6612919a
