/-
  No cell of these rows narrows 'for every input' (looked for: loops, veiled, ifaces, maps, wideKeys, modest, calm, conditions, laid).
  DERIVED. THE GIVEN ROWS OF THIS SEAT. 2 by the template 'for every input the law returns true; each argument reads behind the call as it read before'; 0 by the template 'total and deterministic' (their statements: Qxb6615052aTotals.lean).
  GIVEN WITH THE SEED: the statements are not yours to turn. If you find one false, say at which input.
  Laid BY PROGRAM, IN A SANDBOX (cutbox-rows.mjs): the forced cells as the released guide's own fill.sh prints them over the translation 8228c089bfdf76ec… (all of the seat's roots in one cut). By AI agents, Wed Nov 11 2026. No macro, syntax, notation, axiom, sorry.
-/
import Derived.Test.Qxb6615052aChecked
import GoSem.Claim
import GoSem.ClaimJoined
import GoSem.ClaimMapViews
import Derived.JoinedTies
import Derived.KernelRfl
namespace Go.Proofs.Qxb6615052a
/- THE CELL 'sum', in the pinned program and in every row, IS THE sha256 OF THE DUMP (.gsa) THAT Qxb6615052aProg.lean LOADS. Nothing in Lean hashes anything: it is a label: what it is worth is what the hold of that sum in a sandbox is worth. -/
noncomputable def Try.pinned : Pinned := { name := "qxb6615052a", sum := "8228c089bfdf76ec13a80ea7f35bd4e9e32ea9d5116cc664c46c1cdd3f44c4b2", checked := Try.checked }
namespace Rows
def none {H : Type} : Left H := { results := [], args := [] }

/-- 'zzlaws_internal_atomicfile_b1.FnIsTemporaryIgnoresHiddenBase': WHATEVER THE INPUT: true; the input reads as it did. -/
def fnIsTemporaryIgnoresHiddenBaseSpec : ChangeSpec := { name := "fnIsTemporaryIgnoresHiddenBase", fn := fun _ => fun
  | [d1, d2, d3] => { results := [.lit (.bool true)], args := [d1, d2, d3] }
  | _ => none }
def fnIsTemporaryIgnoresHiddenBaseRow : OpenClaim := { program := "qxb6615052a", sum := "8228c089bfdf76ec13a80ea7f35bd4e9e32ea9d5116cc664c46c1cdd3f44c4b2", func := "example.com/rootsmith/rootsmith/zzlaws_internal_atomicfile_b1.FnIsTemporaryIgnoresHiddenBase", spec := "fnIsTemporaryIgnoresHiddenBase", apart := false }
def FnIsTemporaryIgnoresHiddenBaseSaid : Prop := fnIsTemporaryIgnoresHiddenBaseRow.holds Try.pinned (OpenSpec.ofChange fnIsTemporaryIgnoresHiddenBaseSpec)

/-- ITS FALSE NEIGHBOUR: 'it returns false'. Refute it at one input. -/
def fnIsTemporaryIgnoresHiddenBaseWrong : ChangeSpec := { name := "fnIsTemporaryIgnoresHiddenBase", fn := fun _ => fun
  | [d1, d2, d3] => { results := [.lit (.bool false)], args := [d1, d2, d3] }
  | _ => none }
def FnIsTemporaryIgnoresHiddenBaseWrongFalsely : Prop := fnIsTemporaryIgnoresHiddenBaseRow.holds Try.pinned (OpenSpec.ofChange fnIsTemporaryIgnoresHiddenBaseWrong)

/-- 'zzlaws_internal_atomicfile_b1.FnIsTemporaryIgnoresDotFreeTail': WHATEVER THE INPUT: true; the input reads as it did. -/
def fnIsTemporaryIgnoresDotFreeTailSpec : ChangeSpec := { name := "fnIsTemporaryIgnoresDotFreeTail", fn := fun _ => fun
  | [d1, d2, d3] => { results := [.lit (.bool true)], args := [d1, d2, d3] }
  | _ => none }
def fnIsTemporaryIgnoresDotFreeTailRow : OpenClaim := { program := "qxb6615052a", sum := "8228c089bfdf76ec13a80ea7f35bd4e9e32ea9d5116cc664c46c1cdd3f44c4b2", func := "example.com/rootsmith/rootsmith/zzlaws_internal_atomicfile_b1.FnIsTemporaryIgnoresDotFreeTail", spec := "fnIsTemporaryIgnoresDotFreeTail", apart := false }
def FnIsTemporaryIgnoresDotFreeTailSaid : Prop := fnIsTemporaryIgnoresDotFreeTailRow.holds Try.pinned (OpenSpec.ofChange fnIsTemporaryIgnoresDotFreeTailSpec)

/-- ITS FALSE NEIGHBOUR: 'it returns false'. Refute it at one input. -/
def fnIsTemporaryIgnoresDotFreeTailWrong : ChangeSpec := { name := "fnIsTemporaryIgnoresDotFreeTail", fn := fun _ => fun
  | [d1, d2, d3] => { results := [.lit (.bool false)], args := [d1, d2, d3] }
  | _ => none }
def FnIsTemporaryIgnoresDotFreeTailWrongFalsely : Prop := fnIsTemporaryIgnoresDotFreeTailRow.holds Try.pinned (OpenSpec.ofChange fnIsTemporaryIgnoresDotFreeTailWrong)

end Rows
end Go.Proofs.Qxb6615052a
