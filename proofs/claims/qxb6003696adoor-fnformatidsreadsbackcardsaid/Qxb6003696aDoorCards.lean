/-
  DERIVED. GIVEN WITH THE SEED: THE CARDS: each row of Qxb6003696aDoorRows.lean that lists a variable, with what it lists TIED to the program's text (the seventh form; the later family's looks); each row that meets fmt, with fmt's text TOLD by the authors' own Lean function (tested against real Go, not proved from fmt's source: count such statements apart). THE CARD IS WHAT COUNTS. Prove the row's statement (the work); the ties are given (Qxb6003696aDoorTie.lean); close each card by the builder's one call (the guide's Derived/Test/ToyasCard.lean, 'card_holds'). Laid BY PROGRAM, IN A SANDBOX (cutbox-door.mjs). By AI agents, Wed Nov 11 2026. No macro, syntax, notation, axiom, sorry.
-/
import Derived.Test.Qxb6003696aDoorRows
import GoSem.ClaimSeven
namespace Go.Proofs.Qxb6003696aDoor
namespace Rows

/-- THE TIED CARD OF 'zzlaws_internal_ring_g2.FnFormatIDsReadsBack'. -/
def fnFormatIDsReadsBackCard : Claim7 := { stood := { row := fnFormatIDsReadsBackRow, standIns := [], harness := (true, "413fb07e62e99a0e8ce3ba065bd6b8052addfa5812b6ce9e41a4045ef3aea1b0"), looks := false }, kinds := [], alts := [], laidByText := true, laidKinds := [.data, .data, .data], laidTests := true, laidLooks := .later }
def FnFormatIDsReadsBackCardSaid : Prop := Claim7.holds Tryd.pinned (.plain (OpenSpec.ofChange fnFormatIDsReadsBackSpec)) fnFormatIDsReadsBackCard

/-- THE TIED CARD OF 'zzlaws_internal_ring_g2.FnPluralAgreesWithFormatIDs'. -/
def fnPluralAgreesWithFormatIDsCard : Claim7 := { stood := { row := fnPluralAgreesWithFormatIDsRow, standIns := [], harness := (true, "413fb07e62e99a0e8ce3ba065bd6b8052addfa5812b6ce9e41a4045ef3aea1b0"), looks := false }, kinds := [], alts := [], laidByText := true, laidKinds := [.data, .data, .data], laidTests := true, laidLooks := .later }
def FnPluralAgreesWithFormatIDsCardSaid : Prop := Claim7.holds Tryd.pinned (.plain (OpenSpec.ofChange fnPluralAgreesWithFormatIDsSpec)) fnPluralAgreesWithFormatIDsCard
end Rows
end Go.Proofs.Qxb6003696aDoor
