/-
  DERIVED. GIVEN WITH THE SEED: THE CARDS: each row of Qxb6614854aDoorRows.lean that lists a variable, with what it lists TIED to the program's text (the seventh form; the later family's looks); each row that meets fmt, with fmt's text TOLD by the authors' own Lean function (tested against real Go, not proved from fmt's source: count such statements apart). THE CARD IS WHAT COUNTS. Prove the row's statement (the work); the ties are given (Qxb6614854aDoorTie.lean); close each card by the builder's one call (the guide's Derived/Test/ToyasCard.lean, 'card_holds'). Laid BY PROGRAM, IN A SANDBOX (cutbox-door.mjs). By AI agents, Wed Nov 11 2026. No macro, syntax, notation, axiom, sorry.
-/
import Derived.Test.Qxb6614854aDoorRows
import GoSem.ClaimSeven
namespace Go.Proofs.Qxb6614854aDoor
namespace Rows

/-- THE TIED CARD OF 'zzlaws_root_b1.FnAppendIntegerWritesCanonicalDecimal'. -/
def fnAppendIntegerWritesCanonicalDecimalCard : Claim7 := { stood := { row := fnAppendIntegerWritesCanonicalDecimalRow, standIns := [], harness := (true, "add5d6c9479010a294d84abf58e8f3f74d1c0b6cdf62cbce838ac246c5310749"), looks := true }, kinds := [], alts := [], laidByText := true, laidKinds := [.data, .data, .data], laidTests := true, laidLooks := .later }
def FnAppendIntegerWritesCanonicalDecimalCardSaid : Prop := Claim7.holds Tryd.pinned (.plain (OpenSpec.ofChange fnAppendIntegerWritesCanonicalDecimalSpec)) fnAppendIntegerWritesCanonicalDecimalCard

/-- THE TIED CARD OF 'zzlaws_root_b1.FnAppendIntegerKindsAgree'. -/
def fnAppendIntegerKindsAgreeCard : Claim7 := { stood := { row := fnAppendIntegerKindsAgreeRow, standIns := [], harness := (true, "add5d6c9479010a294d84abf58e8f3f74d1c0b6cdf62cbce838ac246c5310749"), looks := true }, kinds := [], alts := [], laidByText := true, laidKinds := [.data, .data, .data], laidTests := true, laidLooks := .later }
def FnAppendIntegerKindsAgreeCardSaid : Prop := Claim7.holds Tryd.pinned (.plain (OpenSpec.ofChange fnAppendIntegerKindsAgreeSpec)) fnAppendIntegerKindsAgreeCard
end Rows
end Go.Proofs.Qxb6614854aDoor
