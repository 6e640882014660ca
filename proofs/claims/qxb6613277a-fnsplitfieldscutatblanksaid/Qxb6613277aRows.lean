/-
  No cell of these rows narrows 'for every input' (looked for: loops, veiled, ifaces, maps, wideKeys, modest, calm, conditions, laid).
  DERIVED. THE GIVEN ROWS OF THIS SEAT. 1 by the template 'for every input the law returns true; each argument reads behind the call as it read before'; 0 by the template 'total and deterministic' (their statements: Qxb6613277aTotals.lean).
  GIVEN WITH THE SEED: the statements are not yours to turn. If you find one false, say at which input.
  Laid BY PROGRAM, IN A SANDBOX (cutbox-rows.mjs): the forced cells as the released guide's own fill.sh prints them over the translation c6a8d59a0fb5df58… (all of the seat's roots in one cut). By AI agents, Wed Nov 11 2026. No macro, syntax, notation, axiom, sorry.
-/
import Derived.Test.Qxb6613277aChecked
import GoSem.Claim
import GoSem.ClaimJoined
import GoSem.ClaimMapViews
import Derived.JoinedTies
import Derived.KernelRfl
namespace Go.Proofs.Qxb6613277a
/- THE CELL 'sum', in the pinned program and in every row, IS THE sha256 OF THE DUMP (.gsa) THAT Qxb6613277aProg.lean LOADS. Nothing in Lean hashes anything: it is a label: what it is worth is what the hold of that sum in a sandbox is worth. -/
noncomputable def Try.pinned : Pinned := { name := "qxb6613277a", sum := "c6a8d59a0fb5df58700948b57b9821359f2e84ad8bbd24287759e53470c06458", checked := Try.checked }
namespace Rows
def none {H : Type} : Left H := { results := [], args := [] }

/-- 'zzlaws_pkg_stf_b1.FnSplitFieldsCutAtBlank': WHATEVER THE INPUT: true; the input reads as it did. -/
def fnSplitFieldsCutAtBlankSpec : ChangeSpec := { name := "fnSplitFieldsCutAtBlank", fn := fun _ => fun
  | [d1, d2] => { results := [.lit (.bool true)], args := [d1, d2] }
  | _ => none }
def fnSplitFieldsCutAtBlankRow : OpenClaim := { program := "qxb6613277a", sum := "c6a8d59a0fb5df58700948b57b9821359f2e84ad8bbd24287759e53470c06458", func := "example.com/logbabel/logbabel/zzlaws_pkg_stf_b1.FnSplitFieldsCutAtBlank", spec := "fnSplitFieldsCutAtBlank", unfollowed := true, recurses := true, apart := false }
def FnSplitFieldsCutAtBlankSaid : Prop := fnSplitFieldsCutAtBlankRow.holds Try.pinned (OpenSpec.ofChange fnSplitFieldsCutAtBlankSpec)

/-- ITS FALSE NEIGHBOUR: 'it returns false'. Refute it at one input. -/
def fnSplitFieldsCutAtBlankWrong : ChangeSpec := { name := "fnSplitFieldsCutAtBlank", fn := fun _ => fun
  | [d1, d2] => { results := [.lit (.bool false)], args := [d1, d2] }
  | _ => none }
def FnSplitFieldsCutAtBlankWrongFalsely : Prop := fnSplitFieldsCutAtBlankRow.holds Try.pinned (OpenSpec.ofChange fnSplitFieldsCutAtBlankWrong)

end Rows
end Go.Proofs.Qxb6613277a
