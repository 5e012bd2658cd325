/-
  DERIVED. GIVEN WITH THE SEED: THE CARDS: each row of Qxb6630339aDoorRows.lean that lists a variable, with what it lists TIED to the program's text (the seventh form; the later family's looks); each row that meets fmt, with fmt's text TOLD by the authors' own Lean function (tested against real Go, not proved from fmt's source: count such statements apart). THE CARD IS WHAT COUNTS. Prove the row's statement (the work); the ties are given (Qxb6630339aDoorTie.lean); close each card by the builder's one call (the guide's Derived/Test/ToyasCard.lean, 'card_holds'). Laid BY PROGRAM, IN A SANDBOX (cutbox-door.mjs). By AI agents, Wed Nov 11 2026. No macro, syntax, notation, axiom, sorry.
-/
import Derived.Test.Qxb6630339aDoorRows
import GoSem.ClaimSeven
namespace Go.Proofs.Qxb6630339aDoor
namespace Rows

/-- THE TIED CARD OF 'zzlaws_internal_history_b1.FnFormatReadOnlyInsertOneTrueKey'. -/
def fnFormatReadOnlyInsertOneTrueKeyCard : Claim7 := { stood := { row := fnFormatReadOnlyInsertOneTrueKeyRow, standIns := [], harness := (true, "aea5c7899db091e874b0d9fbb3ef28b11bc3bd7be5986de7bc28bb56972f7443"), looks := false }, kinds := [], alts := [], laidByText := true, laidKinds := [.data, .data, .data], laidTests := true, laidLooks := .later }
def FnFormatReadOnlyInsertOneTrueKeyCardSaid : Prop := Claim7.holds Tryd.pinned (.plain (OpenSpec.ofChange fnFormatReadOnlyInsertOneTrueKeySpec)) fnFormatReadOnlyInsertOneTrueKeyCard

/-- THE TIED CARD OF 'zzlaws_internal_history_b1.FnFormatReadOnlyOfUnionMergesParts'. -/
def fnFormatReadOnlyOfUnionMergesPartsCard : Claim7 := { stood := { row := fnFormatReadOnlyOfUnionMergesPartsRow, standIns := [], harness := (true, "aea5c7899db091e874b0d9fbb3ef28b11bc3bd7be5986de7bc28bb56972f7443"), looks := false }, kinds := [], alts := [], laidByText := true, laidKinds := [.data, .data, .data], laidTests := true, laidLooks := .later }
def FnFormatReadOnlyOfUnionMergesPartsCardSaid : Prop := Claim7.holds Tryd.pinned (.plain (OpenSpec.ofChange fnFormatReadOnlyOfUnionMergesPartsSpec)) fnFormatReadOnlyOfUnionMergesPartsCard
end Rows
end Go.Proofs.Qxb6630339aDoor
