/-
  DERIVED. GIVEN WITH THE SEED: THE CARDS: each row of Qxb6630026aDoorRows.lean that lists a variable, with what it lists TIED to the program's text (the seventh form; the later family's looks); each row that meets fmt, with fmt's text TOLD by the authors' own Lean function (tested against real Go, not proved from fmt's source: count such statements apart). THE CARD IS WHAT COUNTS. Prove the row's statement (the work); the ties are given (Qxb6630026aDoorTie.lean); close each card by the builder's one call (the guide's Derived/Test/ToyasCard.lean, 'card_holds'). Laid BY PROGRAM, IN A SANDBOX (cutbox-door.mjs). By AI agents, Wed Nov 11 2026. No macro, syntax, notation, axiom, sorry.
-/
import Derived.Test.Qxb6630026aDoorRows
import GoSem.ClaimSeven
namespace Go.Proofs.Qxb6630026aDoor
namespace Rows

/-- THE TIED CARD OF 'zzlaws_logging_b1.FnAppendPaddedIsPaddedDecimal'. -/
def fnAppendPaddedIsPaddedDecimalCard : Claim7 := { stood := { row := fnAppendPaddedIsPaddedDecimalRow, standIns := [], harness := (true, "061d5a84ad651a82fd3a6d98bfde7ae87c1cb2790fdaf3fd0e1bb17e74e8481e"), looks := false }, kinds := [], alts := [], laidByText := true, laidKinds := [.data, .data, .data], laidTests := true, laidLooks := .later }
def FnAppendPaddedIsPaddedDecimalCardSaid : Prop := Claim7.holds Tryd.pinned (.plain (OpenSpec.ofChange fnAppendPaddedIsPaddedDecimalSpec)) fnAppendPaddedIsPaddedDecimalCard

/-- THE TIED CARD OF 'zzlaws_logging_b1.FnAppendPaddedOrdersLikeNumbers'. -/
def fnAppendPaddedOrdersLikeNumbersCard : Claim7 := { stood := { row := fnAppendPaddedOrdersLikeNumbersRow, standIns := [], harness := (true, "061d5a84ad651a82fd3a6d98bfde7ae87c1cb2790fdaf3fd0e1bb17e74e8481e"), looks := false }, kinds := [], alts := [], laidByText := true, laidKinds := [.data, .data, .data], laidTests := true, laidLooks := .later }
def FnAppendPaddedOrdersLikeNumbersCardSaid : Prop := Claim7.holds Tryd.pinned (.plain (OpenSpec.ofChange fnAppendPaddedOrdersLikeNumbersSpec)) fnAppendPaddedOrdersLikeNumbersCard
end Rows
end Go.Proofs.Qxb6630026aDoor
