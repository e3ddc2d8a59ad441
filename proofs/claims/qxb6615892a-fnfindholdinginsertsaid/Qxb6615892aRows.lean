/-
  No cell of these rows narrows 'for every input' (looked for: loops, veiled, ifaces, maps, wideKeys, modest, calm, conditions, laid).
  DERIVED. THE GIVEN ROWS OF THIS SEAT. 3 by the template 'for every input the law returns true; each argument reads behind the call as it read before'; 0 by the template 'total and deterministic' (their statements: Qxb6615892aTotals.lean).
  GIVEN WITH THE SEED: the statements are not yours to turn. If you find one false, say at which input.
  Laid BY PROGRAM, IN A SANDBOX (cutbox-rows.mjs): the forced cells as the released guide's own fill.sh prints them over the translation ebfe0c4b138cd265… (all of the seat's roots in one cut). By AI agents, Wed Nov 11 2026. No macro, syntax, notation, axiom, sorry.
-/
import Derived.Test.Qxb6615892aChecked
import GoSem.Claim
import GoSem.ClaimJoined
import GoSem.ClaimMapViews
import Derived.JoinedTies
import Derived.KernelRfl
namespace Go.Proofs.Qxb6615892a
/- THE CELL 'sum', in the pinned program and in every row, IS THE sha256 OF THE DUMP (.gsa) THAT Qxb6615892aProg.lean LOADS. Nothing in Lean hashes anything: it is a label: what it is worth is what the hold of that sum in a sandbox is worth. -/
noncomputable def Try.pinned : Pinned := { name := "qxb6615892a", sum := "ebfe0c4b138cd265ba9d14c6c2bda39d011c881701b94dce761bf19a61465489", checked := Try.checked }
namespace Rows
def none {H : Type} : Left H := { results := [], args := [] }

/-- 'zzlaws_fund_b1.FnFourByteIndexSuccessor': WHATEVER THE INPUT: true; the input reads as it did. -/
def fnFourByteIndexSuccessorSpec : ChangeSpec := { name := "fnFourByteIndexSuccessor", fn := fun _ => fun
  | [d] => { results := [.lit (.bool true)], args := [d] }
  | _ => none }
def fnFourByteIndexSuccessorRow : OpenClaim := { program := "qxb6615892a", sum := "ebfe0c4b138cd265ba9d14c6c2bda39d011c881701b94dce761bf19a61465489", func := "example.com/tuoguan/tuoguan/zzlaws_fund_b1.FnFourByteIndexSuccessor", spec := "fnFourByteIndexSuccessor", apart := false }
def FnFourByteIndexSuccessorSaid : Prop := fnFourByteIndexSuccessorRow.holds Try.pinned (OpenSpec.ofChange fnFourByteIndexSuccessorSpec)

/-- ITS FALSE NEIGHBOUR: 'it returns false'. Refute it at one input. -/
def fnFourByteIndexSuccessorWrong : ChangeSpec := { name := "fnFourByteIndexSuccessor", fn := fun _ => fun
  | [d] => { results := [.lit (.bool false)], args := [d] }
  | _ => none }
def FnFourByteIndexSuccessorWrongFalsely : Prop := fnFourByteIndexSuccessorRow.holds Try.pinned (OpenSpec.ofChange fnFourByteIndexSuccessorWrong)

/-- 'zzlaws_fund_b1.FnFourByteIndexOrder': WHATEVER THE INPUT: true; the input reads as it did. -/
def fnFourByteIndexOrderSpec : ChangeSpec := { name := "fnFourByteIndexOrder", fn := fun _ => fun
  | [d1, d2] => { results := [.lit (.bool true)], args := [d1, d2] }
  | _ => none }
def fnFourByteIndexOrderRow : OpenClaim := { program := "qxb6615892a", sum := "ebfe0c4b138cd265ba9d14c6c2bda39d011c881701b94dce761bf19a61465489", func := "example.com/tuoguan/tuoguan/zzlaws_fund_b1.FnFourByteIndexOrder", spec := "fnFourByteIndexOrder", apart := false }
def FnFourByteIndexOrderSaid : Prop := fnFourByteIndexOrderRow.holds Try.pinned (OpenSpec.ofChange fnFourByteIndexOrderSpec)

/-- ITS FALSE NEIGHBOUR: 'it returns false'. Refute it at one input. -/
def fnFourByteIndexOrderWrong : ChangeSpec := { name := "fnFourByteIndexOrder", fn := fun _ => fun
  | [d1, d2] => { results := [.lit (.bool false)], args := [d1, d2] }
  | _ => none }
def FnFourByteIndexOrderWrongFalsely : Prop := fnFourByteIndexOrderRow.holds Try.pinned (OpenSpec.ofChange fnFourByteIndexOrderWrong)

/-- 'zzlaws_fund_b1.FnFindHoldingInsert': WHATEVER THE INPUT: true; the input reads as it did. -/
def fnFindHoldingInsertSpec : ChangeSpec := { name := "fnFindHoldingInsert", fn := fun _ => fun
  | [d1, d2, d3, d4, d5] => { results := [.lit (.bool true)], args := [d1, d2, d3, d4, d5] }
  | _ => none }
def fnFindHoldingInsertRow : OpenClaim := { program := "qxb6615892a", sum := "ebfe0c4b138cd265ba9d14c6c2bda39d011c881701b94dce761bf19a61465489", func := "example.com/tuoguan/tuoguan/zzlaws_fund_b1.FnFindHoldingInsert", spec := "fnFindHoldingInsert", unfollowed := true, recurses := true, apart := false }
def FnFindHoldingInsertSaid : Prop := fnFindHoldingInsertRow.holds Try.pinned (OpenSpec.ofChange fnFindHoldingInsertSpec)

/-- ITS FALSE NEIGHBOUR: 'it returns false'. Refute it at one input. -/
def fnFindHoldingInsertWrong : ChangeSpec := { name := "fnFindHoldingInsert", fn := fun _ => fun
  | [d1, d2, d3, d4, d5] => { results := [.lit (.bool false)], args := [d1, d2, d3, d4, d5] }
  | _ => none }
def FnFindHoldingInsertWrongFalsely : Prop := fnFindHoldingInsertRow.holds Try.pinned (OpenSpec.ofChange fnFindHoldingInsertWrong)

end Rows
end Go.Proofs.Qxb6615892a
