/-
  No cell of these rows narrows 'for every input' (looked for: loops, veiled, ifaces, maps, wideKeys, modest, calm, conditions, laid).
  DERIVED. THE GIVEN ROWS OF THIS SEAT. 5 by the template 'for every input the law returns true; each argument reads behind the call as it read before'; 0 by the template 'total and deterministic' (their statements: Qxb6612837aTotals.lean).
  GIVEN WITH THE SEED: the statements are not yours to turn. If you find one false, say at which input.
  Laid BY PROGRAM, IN A SANDBOX (cutbox-rows.mjs): the forced cells as the released guide's own fill.sh prints them over the translation 9a71ddb1ea40431c… (all of the seat's roots in one cut). By AI agents, Wed Nov 11 2026. No macro, syntax, notation, axiom, sorry.
-/
import Derived.Test.Qxb6612837aChecked
import GoSem.Claim
import GoSem.ClaimJoined
import GoSem.ClaimMapViews
import Derived.JoinedTies
import Derived.KernelRfl
namespace Go.Proofs.Qxb6612837a
/- THE CELL 'sum', in the pinned program and in every row, IS THE sha256 OF THE DUMP (.gsa) THAT Qxb6612837aProg.lean LOADS. Nothing in Lean hashes anything: it is a label: what it is worth is what the hold of that sum in a sandbox is worth. -/
noncomputable def Try.pinned : Pinned := { name := "qxb6612837a", sum := "9a71ddb1ea40431cbe1a447994a6d1e5aea035cc2b164e42a7eae4057891dc53", checked := Try.checked }
namespace Rows
def none {H : Type} : Left H := { results := [], args := [] }

/-- 'zzlaws_tm_b1.FnTransactionOfCutAtAnyPlace': WHATEVER THE INPUT: true; the input reads as it did. -/
def fnTransactionOfCutAtAnyPlaceSpec : ChangeSpec := { name := "fnTransactionOfCutAtAnyPlace", fn := fun _ => fun
  | [d1, d2, d3, d4, d5, d6] => { results := [.lit (.bool true)], args := [d1, d2, d3, d4, d5, d6] }
  | _ => none }
def fnTransactionOfCutAtAnyPlaceRow : OpenClaim := { program := "qxb6612837a", sum := "9a71ddb1ea40431cbe1a447994a6d1e5aea035cc2b164e42a7eae4057891dc53", func := "example.com/concordat/concordat/zzlaws_tm_b1.FnTransactionOfCutAtAnyPlace", spec := "fnTransactionOfCutAtAnyPlace", apart := false }
def FnTransactionOfCutAtAnyPlaceSaid : Prop := fnTransactionOfCutAtAnyPlaceRow.holds Try.pinned (OpenSpec.ofChange fnTransactionOfCutAtAnyPlaceSpec)

/-- ITS FALSE NEIGHBOUR: 'it returns false'. Refute it at one input. -/
def fnTransactionOfCutAtAnyPlaceWrong : ChangeSpec := { name := "fnTransactionOfCutAtAnyPlace", fn := fun _ => fun
  | [d1, d2, d3, d4, d5, d6] => { results := [.lit (.bool false)], args := [d1, d2, d3, d4, d5, d6] }
  | _ => none }
def FnTransactionOfCutAtAnyPlaceWrongFalsely : Prop := fnTransactionOfCutAtAnyPlaceRow.holds Try.pinned (OpenSpec.ofChange fnTransactionOfCutAtAnyPlaceWrong)

/-- 'zzlaws_tm_b1.FnTransactionOfOneBranchPutInAnyPlace': WHATEVER THE INPUT: true; the input reads as it did. -/
def fnTransactionOfOneBranchPutInAnyPlaceSpec : ChangeSpec := { name := "fnTransactionOfOneBranchPutInAnyPlace", fn := fun _ => fun
  | [d1, d2, d3, d4, d5, d6, d7] => { results := [.lit (.bool true)], args := [d1, d2, d3, d4, d5, d6, d7] }
  | _ => none }
def fnTransactionOfOneBranchPutInAnyPlaceRow : OpenClaim := { program := "qxb6612837a", sum := "9a71ddb1ea40431cbe1a447994a6d1e5aea035cc2b164e42a7eae4057891dc53", func := "example.com/concordat/concordat/zzlaws_tm_b1.FnTransactionOfOneBranchPutInAnyPlace", spec := "fnTransactionOfOneBranchPutInAnyPlace", apart := false }
def FnTransactionOfOneBranchPutInAnyPlaceSaid : Prop := fnTransactionOfOneBranchPutInAnyPlaceRow.holds Try.pinned (OpenSpec.ofChange fnTransactionOfOneBranchPutInAnyPlaceSpec)

/-- ITS FALSE NEIGHBOUR: 'it returns false'. Refute it at one input. -/
def fnTransactionOfOneBranchPutInAnyPlaceWrong : ChangeSpec := { name := "fnTransactionOfOneBranchPutInAnyPlace", fn := fun _ => fun
  | [d1, d2, d3, d4, d5, d6, d7] => { results := [.lit (.bool false)], args := [d1, d2, d3, d4, d5, d6, d7] }
  | _ => none }
def FnTransactionOfOneBranchPutInAnyPlaceWrongFalsely : Prop := fnTransactionOfOneBranchPutInAnyPlaceRow.holds Try.pinned (OpenSpec.ofChange fnTransactionOfOneBranchPutInAnyPlaceWrong)

/-- 'zzlaws_tm_b1.FnEndUnsentAnswersNotSentOnceAndForAll': WHATEVER THE INPUT: true; the input reads as it did. -/
def fnEndUnsentAnswersNotSentOnceAndForAllSpec : ChangeSpec := { name := "fnEndUnsentAnswersNotSentOnceAndForAll", fn := fun _ => fun
  | [d1, d2, d3, d4] => { results := [.lit (.bool true)], args := [d1, d2, d3, d4] }
  | _ => none }
def fnEndUnsentAnswersNotSentOnceAndForAllRow : OpenClaim := { program := "qxb6612837a", sum := "9a71ddb1ea40431cbe1a447994a6d1e5aea035cc2b164e42a7eae4057891dc53", func := "example.com/concordat/concordat/zzlaws_tm_b1.FnEndUnsentAnswersNotSentOnceAndForAll", spec := "fnEndUnsentAnswersNotSentOnceAndForAll", inPlace := ["(*internal/sync.Mutex).Lock", "internal/race.Disable", "sync/atomic.CompareAndSwapInt32", "internal/race.Enable", "internal/race.Acquire", "(*internal/sync.Mutex).lockSlow", "internal/sync.runtime_canSpin", "internal/sync.runtime_doSpin", "internal/sync.throw", "internal/sync.runtime_nanotime", "internal/sync.runtime_SemacquireMutex", "sync/atomic.AddInt32", "(*internal/sync.Mutex).Unlock", "internal/race.ReleaseMerge", "(*internal/sync.Mutex).unlockSlow", "internal/sync.fatal", "internal/sync.runtime_Semrelease"], apart := false }
def FnEndUnsentAnswersNotSentOnceAndForAllSaid : Prop := fnEndUnsentAnswersNotSentOnceAndForAllRow.holds Try.pinned (OpenSpec.ofChange fnEndUnsentAnswersNotSentOnceAndForAllSpec)

/-- ITS FALSE NEIGHBOUR: 'it returns false'. Refute it at one input. -/
def fnEndUnsentAnswersNotSentOnceAndForAllWrong : ChangeSpec := { name := "fnEndUnsentAnswersNotSentOnceAndForAll", fn := fun _ => fun
  | [d1, d2, d3, d4] => { results := [.lit (.bool false)], args := [d1, d2, d3, d4] }
  | _ => none }
def FnEndUnsentAnswersNotSentOnceAndForAllWrongFalsely : Prop := fnEndUnsentAnswersNotSentOnceAndForAllRow.holds Try.pinned (OpenSpec.ofChange fnEndUnsentAnswersNotSentOnceAndForAllWrong)

/-- 'zzlaws_tm_b1.FnDeferredOfAgreesWithXid': WHATEVER THE INPUT: true; the input reads as it did. -/
def fnDeferredOfAgreesWithXidSpec : ChangeSpec := { name := "fnDeferredOfAgreesWithXid", fn := fun _ => fun
  | [d1, d2, d3, d4] => { results := [.lit (.bool true)], args := [d1, d2, d3, d4] }
  | _ => none }
def fnDeferredOfAgreesWithXidRow : OpenClaim := { program := "qxb6612837a", sum := "9a71ddb1ea40431cbe1a447994a6d1e5aea035cc2b164e42a7eae4057891dc53", func := "example.com/concordat/concordat/zzlaws_tm_b1.FnDeferredOfAgreesWithXid", spec := "fnDeferredOfAgreesWithXid", inPlace := ["internal/reflectlite.TypeOf"], unfollowed := true, recurses := true, apart := false }
def FnDeferredOfAgreesWithXidSaid : Prop := fnDeferredOfAgreesWithXidRow.holds Try.pinned (OpenSpec.ofChange fnDeferredOfAgreesWithXidSpec)

/-- ITS FALSE NEIGHBOUR: 'it returns false'. Refute it at one input. -/
def fnDeferredOfAgreesWithXidWrong : ChangeSpec := { name := "fnDeferredOfAgreesWithXid", fn := fun _ => fun
  | [d1, d2, d3, d4] => { results := [.lit (.bool false)], args := [d1, d2, d3, d4] }
  | _ => none }
def FnDeferredOfAgreesWithXidWrongFalsely : Prop := fnDeferredOfAgreesWithXidRow.holds Try.pinned (OpenSpec.ofChange fnDeferredOfAgreesWithXidWrong)

/-- 'zzlaws_tm_b1.FnDeferredOfSurvivesDerivedContext': WHATEVER THE INPUT: true; the input reads as it did. -/
def fnDeferredOfSurvivesDerivedContextSpec : ChangeSpec := { name := "fnDeferredOfSurvivesDerivedContext", fn := fun _ => fun
  | [d1, d2, d3, d4, d5] => { results := [.lit (.bool true)], args := [d1, d2, d3, d4, d5] }
  | _ => none }
def fnDeferredOfSurvivesDerivedContextRow : OpenClaim := { program := "qxb6612837a", sum := "9a71ddb1ea40431cbe1a447994a6d1e5aea035cc2b164e42a7eae4057891dc53", func := "example.com/concordat/concordat/zzlaws_tm_b1.FnDeferredOfSurvivesDerivedContext", spec := "fnDeferredOfSurvivesDerivedContext", inPlace := ["internal/reflectlite.TypeOf"], unfollowed := true, recurses := true, apart := false }
def FnDeferredOfSurvivesDerivedContextSaid : Prop := fnDeferredOfSurvivesDerivedContextRow.holds Try.pinned (OpenSpec.ofChange fnDeferredOfSurvivesDerivedContextSpec)

/-- ITS FALSE NEIGHBOUR: 'it returns false'. Refute it at one input. -/
def fnDeferredOfSurvivesDerivedContextWrong : ChangeSpec := { name := "fnDeferredOfSurvivesDerivedContext", fn := fun _ => fun
  | [d1, d2, d3, d4, d5] => { results := [.lit (.bool false)], args := [d1, d2, d3, d4, d5] }
  | _ => none }
def FnDeferredOfSurvivesDerivedContextWrongFalsely : Prop := fnDeferredOfSurvivesDerivedContextRow.holds Try.pinned (OpenSpec.ofChange fnDeferredOfSurvivesDerivedContextWrong)

end Rows
end Go.Proofs.Qxb6612837a
