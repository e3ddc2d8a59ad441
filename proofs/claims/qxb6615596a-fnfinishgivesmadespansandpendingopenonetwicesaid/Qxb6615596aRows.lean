/-
  No cell of these rows narrows 'for every input' (looked for: loops, veiled, ifaces, maps, wideKeys, modest, calm, conditions, laid).
  DERIVED. THE GIVEN ROWS OF THIS SEAT. 4 by the template 'for every input the law returns true; each argument reads behind the call as it read before'; 0 by the template 'total and deterministic' (their statements: Qxb6615596aTotals.lean).
  GIVEN WITH THE SEED: the statements are not yours to turn. If you find one false, say at which input.
  Laid BY PROGRAM, IN A SANDBOX (cutbox-rows.mjs): the forced cells as the released guide's own fill.sh prints them over the translation 9031b90decdb8c6d… (all of the seat's roots in one cut). By AI agents, Wed Nov 11 2026. No macro, syntax, notation, axiom, sorry.
-/
import Derived.Test.Qxb6615596aChecked
import GoSem.Claim
import GoSem.ClaimJoined
import GoSem.ClaimMapViews
import Derived.JoinedTies
import Derived.KernelRfl
namespace Go.Proofs.Qxb6615596a
/- THE CELL 'sum', in the pinned program and in every row, IS THE sha256 OF THE DUMP (.gsa) THAT Qxb6615596aProg.lean LOADS. Nothing in Lean hashes anything: it is a label: what it is worth is what the hold of that sum in a sandbox is worth. -/
noncomputable def Try.pinned : Pinned := { name := "qxb6615596a", sum := "9031b90decdb8c6d00d04df94b60fd8af58b89da94758fc6edb46d1868ca2f1a", checked := Try.checked }
namespace Rows
def none {H : Type} : Left H := { results := [], args := [] }

/-- 'zzlaws_root_b1.FnFinishGivesMadeSpansAndPendingOpenOneTwice': WHATEVER THE INPUT: true; the input reads as it did. -/
def fnFinishGivesMadeSpansAndPendingOpenOneTwiceSpec : ChangeSpec := { name := "fnFinishGivesMadeSpansAndPendingOpenOneTwice", fn := fun _ => fun
  | [d1, d2, d3, d4, d5, d6, d7] => { results := [.lit (.bool true)], args := [d1, d2, d3, d4, d5, d6, d7] }
  | _ => none }
def fnFinishGivesMadeSpansAndPendingOpenOneTwiceRow : OpenClaim := { program := "qxb6615596a", sum := "9031b90decdb8c6d00d04df94b60fd8af58b89da94758fc6edb46d1868ca2f1a", func := "example.com/tidy-outbox/tidy-outbox/zzlaws_root_b1.FnFinishGivesMadeSpansAndPendingOpenOneTwice", spec := "fnFinishGivesMadeSpansAndPendingOpenOneTwice", apart := false }
def FnFinishGivesMadeSpansAndPendingOpenOneTwiceSaid : Prop := fnFinishGivesMadeSpansAndPendingOpenOneTwiceRow.holds Try.pinned (OpenSpec.ofChange fnFinishGivesMadeSpansAndPendingOpenOneTwiceSpec)

/-- ITS FALSE NEIGHBOUR: 'it returns false'. Refute it at one input. -/
def fnFinishGivesMadeSpansAndPendingOpenOneTwiceWrong : ChangeSpec := { name := "fnFinishGivesMadeSpansAndPendingOpenOneTwice", fn := fun _ => fun
  | [d1, d2, d3, d4, d5, d6, d7] => { results := [.lit (.bool false)], args := [d1, d2, d3, d4, d5, d6, d7] }
  | _ => none }
def FnFinishGivesMadeSpansAndPendingOpenOneTwiceWrongFalsely : Prop := fnFinishGivesMadeSpansAndPendingOpenOneTwiceRow.holds Try.pinned (OpenSpec.ofChange fnFinishGivesMadeSpansAndPendingOpenOneTwiceWrong)

/-- 'zzlaws_root_b1.FnFinishAfterCutAgreesWithFinish': WHATEVER THE INPUT: true; the input reads as it did. -/
def fnFinishAfterCutAgreesWithFinishSpec : ChangeSpec := { name := "fnFinishAfterCutAgreesWithFinish", fn := fun _ => fun
  | [d1, d2, d3, d4, d5, d6, d7] => { results := [.lit (.bool true)], args := [d1, d2, d3, d4, d5, d6, d7] }
  | _ => none }
def fnFinishAfterCutAgreesWithFinishRow : OpenClaim := { program := "qxb6615596a", sum := "9031b90decdb8c6d00d04df94b60fd8af58b89da94758fc6edb46d1868ca2f1a", func := "example.com/tidy-outbox/tidy-outbox/zzlaws_root_b1.FnFinishAfterCutAgreesWithFinish", spec := "fnFinishAfterCutAgreesWithFinish", apart := false }
def FnFinishAfterCutAgreesWithFinishSaid : Prop := fnFinishAfterCutAgreesWithFinishRow.holds Try.pinned (OpenSpec.ofChange fnFinishAfterCutAgreesWithFinishSpec)

/-- ITS FALSE NEIGHBOUR: 'it returns false'. Refute it at one input. -/
def fnFinishAfterCutAgreesWithFinishWrong : ChangeSpec := { name := "fnFinishAfterCutAgreesWithFinish", fn := fun _ => fun
  | [d1, d2, d3, d4, d5, d6, d7] => { results := [.lit (.bool false)], args := [d1, d2, d3, d4, d5, d6, d7] }
  | _ => none }
def FnFinishAfterCutAgreesWithFinishWrongFalsely : Prop := fnFinishAfterCutAgreesWithFinishRow.holds Try.pinned (OpenSpec.ofChange fnFinishAfterCutAgreesWithFinishWrong)

/-- 'zzlaws_root_b1.FnCommitsAddScriptRecordsInOrder': WHATEVER THE INPUT: true; the input reads as it did. -/
def fnCommitsAddScriptRecordsInOrderSpec : ChangeSpec := { name := "fnCommitsAddScriptRecordsInOrder", fn := fun _ => fun
  | [d1, d2, d3] => { results := [.lit (.bool true)], args := [d1, d2, d3] }
  | _ => none }
def fnCommitsAddScriptRecordsInOrderRow : OpenClaim := { program := "qxb6615596a", sum := "9031b90decdb8c6d00d04df94b60fd8af58b89da94758fc6edb46d1868ca2f1a", func := "example.com/tidy-outbox/tidy-outbox/zzlaws_root_b1.FnCommitsAddScriptRecordsInOrder", spec := "fnCommitsAddScriptRecordsInOrder", inPlace := ["(*internal/sync.Mutex).Lock", "internal/race.Disable", "sync/atomic.CompareAndSwapInt32", "internal/race.Enable", "internal/race.Acquire", "(*internal/sync.Mutex).lockSlow", "internal/sync.runtime_canSpin", "internal/sync.runtime_doSpin", "internal/sync.throw", "internal/sync.runtime_nanotime", "internal/sync.runtime_SemacquireMutex", "sync/atomic.AddInt32", "(*internal/sync.Mutex).Unlock", "internal/race.ReleaseMerge", "(*internal/sync.Mutex).unlockSlow", "internal/sync.fatal", "internal/sync.runtime_Semrelease"], apart := false }
def FnCommitsAddScriptRecordsInOrderSaid : Prop := fnCommitsAddScriptRecordsInOrderRow.holds Try.pinned (OpenSpec.ofChange fnCommitsAddScriptRecordsInOrderSpec)

/-- ITS FALSE NEIGHBOUR: 'it returns false'. Refute it at one input. -/
def fnCommitsAddScriptRecordsInOrderWrong : ChangeSpec := { name := "fnCommitsAddScriptRecordsInOrder", fn := fun _ => fun
  | [d1, d2, d3] => { results := [.lit (.bool false)], args := [d1, d2, d3] }
  | _ => none }
def FnCommitsAddScriptRecordsInOrderWrongFalsely : Prop := fnCommitsAddScriptRecordsInOrderRow.holds Try.pinned (OpenSpec.ofChange fnCommitsAddScriptRecordsInOrderWrong)

/-- 'zzlaws_root_b1.FnCommitsEachAddAfterHeardRingsAgain': WHATEVER THE INPUT: true; the input reads as it did. -/
def fnCommitsEachAddAfterHeardRingsAgainSpec : ChangeSpec := { name := "fnCommitsEachAddAfterHeardRingsAgain", fn := fun _ => fun
  | [d1, d2, d3] => { results := [.lit (.bool true)], args := [d1, d2, d3] }
  | _ => none }
def fnCommitsEachAddAfterHeardRingsAgainRow : OpenClaim := { program := "qxb6615596a", sum := "9031b90decdb8c6d00d04df94b60fd8af58b89da94758fc6edb46d1868ca2f1a", func := "example.com/tidy-outbox/tidy-outbox/zzlaws_root_b1.FnCommitsEachAddAfterHeardRingsAgain", spec := "fnCommitsEachAddAfterHeardRingsAgain", inPlace := ["(*internal/sync.Mutex).Lock", "internal/race.Disable", "sync/atomic.CompareAndSwapInt32", "internal/race.Enable", "internal/race.Acquire", "(*internal/sync.Mutex).lockSlow", "internal/sync.runtime_canSpin", "internal/sync.runtime_doSpin", "internal/sync.throw", "internal/sync.runtime_nanotime", "internal/sync.runtime_SemacquireMutex", "sync/atomic.AddInt32", "(*internal/sync.Mutex).Unlock", "internal/race.ReleaseMerge", "(*internal/sync.Mutex).unlockSlow", "internal/sync.fatal", "internal/sync.runtime_Semrelease"], apart := false }
def FnCommitsEachAddAfterHeardRingsAgainSaid : Prop := fnCommitsEachAddAfterHeardRingsAgainRow.holds Try.pinned (OpenSpec.ofChange fnCommitsEachAddAfterHeardRingsAgainSpec)

/-- ITS FALSE NEIGHBOUR: 'it returns false'. Refute it at one input. -/
def fnCommitsEachAddAfterHeardRingsAgainWrong : ChangeSpec := { name := "fnCommitsEachAddAfterHeardRingsAgain", fn := fun _ => fun
  | [d1, d2, d3] => { results := [.lit (.bool false)], args := [d1, d2, d3] }
  | _ => none }
def FnCommitsEachAddAfterHeardRingsAgainWrongFalsely : Prop := fnCommitsEachAddAfterHeardRingsAgainRow.holds Try.pinned (OpenSpec.ofChange fnCommitsEachAddAfterHeardRingsAgainWrong)

end Rows
end Go.Proofs.Qxb6615596a
