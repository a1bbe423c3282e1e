/-
  DERIVED. GIVEN WITH THE SEED: THE CARDS: each row of Qxb6003865aFmtRows.lean that lists a variable, with what it lists TIED to the program's text (the seventh form; the later family's looks); each row that meets fmt, with fmt's text TOLD by the authors' own Lean function (tested against real Go, not proved from fmt's source: count such statements apart). THE CARD IS WHAT COUNTS. Prove the row's statement (the work); the ties are given (Qxb6003865aFmtTie.lean); close each card by the builder's one call (the guide's Derived/Test/ToyasCard.lean, 'card_holds'). Laid BY PROGRAM, IN A SANDBOX (cutbox-door.mjs). By AI agents, Wed Nov 11 2026. No macro, syntax, notation, axiom, sorry.
-/
import Derived.Test.Qxb6003865aFmtRows
import GoSem.ClaimSeven
namespace Go.Proofs.Qxb6003865aFmt
namespace Rows

/-- THE TOLD CARD OF 'zzlaws_bandwidth_c1.PropBaseBandwidthIsGreatestFittingBase'. -/
def propBaseBandwidthIsGreatestFittingBaseCard : Claim7 := { stood := { row := propBaseBandwidthIsGreatestFittingBaseRow, standIns := [], harness := (true, "968cb2de6ceb01778fa6173ba28bf2b81bac80e97985923cc67b8d34482693cc"), looks := true }, told := true, goes := false }
def PropBaseBandwidthIsGreatestFittingBaseToldSaid : Prop := Claim7.holds Tryf.pinned (.plain (OpenSpec.ofChange propBaseBandwidthIsGreatestFittingBaseSpec)) propBaseBandwidthIsGreatestFittingBaseCard
/-- ITS FALSE NEIGHBOUR. Refute it at one input. -/
def PropBaseBandwidthIsGreatestFittingBaseToldWrongFalsely : Prop := Claim7.holds Tryf.pinned (.plain (OpenSpec.ofChange propBaseBandwidthIsGreatestFittingBaseWrong)) propBaseBandwidthIsGreatestFittingBaseCard

/-- THE TOLD AND TIED CARD OF 'zzlaws_bandwidth_c1.PropDefaultParamsValidOnShardRange'. -/
def propDefaultParamsValidOnShardRangeCard : Claim7 := { stood := { row := propDefaultParamsValidOnShardRangeRow, standIns := [], harness := (true, "968cb2de6ceb01778fa6173ba28bf2b81bac80e97985923cc67b8d34482693cc"), looks := true }, told := true, laidByText := true, laidKinds := [.handle], laidTests := true, laidLooks := .later, goes := false }
def PropDefaultParamsValidOnShardRangeToldSaid : Prop := Claim7.holds Tryf.pinned (.plain (OpenSpec.ofChange propDefaultParamsValidOnShardRangeSpec)) propDefaultParamsValidOnShardRangeCard
/-- ITS FALSE NEIGHBOUR. Refute it at one input. -/
def PropDefaultParamsValidOnShardRangeToldWrongFalsely : Prop := Claim7.holds Tryf.pinned (.plain (OpenSpec.ofChange propDefaultParamsValidOnShardRangeWrong)) propDefaultParamsValidOnShardRangeCard

/-- THE TOLD CARD OF 'zzlaws_bandwidth_c1.PropRequestValuesAreExactFortieths'. -/
def propRequestValuesAreExactFortiethsCard : Claim7 := { stood := { row := propRequestValuesAreExactFortiethsRow, standIns := [], harness := (true, "968cb2de6ceb01778fa6173ba28bf2b81bac80e97985923cc67b8d34482693cc"), looks := true }, told := true, goes := false }
def PropRequestValuesAreExactFortiethsToldSaid : Prop := Claim7.holds Tryf.pinned (.plain (OpenSpec.ofChange propRequestValuesAreExactFortiethsSpec)) propRequestValuesAreExactFortiethsCard
/-- ITS FALSE NEIGHBOUR. Refute it at one input. -/
def PropRequestValuesAreExactFortiethsToldWrongFalsely : Prop := Claim7.holds Tryf.pinned (.plain (OpenSpec.ofChange propRequestValuesAreExactFortiethsWrong)) propRequestValuesAreExactFortiethsCard

/-- THE TOLD CARD OF 'zzlaws_bandwidth_c1.PropRequestOptionsLeastValuesOfPrefixSums'. -/
def propRequestOptionsLeastValuesOfPrefixSumsCard : Claim7 := { stood := { row := propRequestOptionsLeastValuesOfPrefixSumsRow, standIns := [], harness := (true, "968cb2de6ceb01778fa6173ba28bf2b81bac80e97985923cc67b8d34482693cc"), looks := true }, told := true, goes := false }
def PropRequestOptionsLeastValuesOfPrefixSumsToldSaid : Prop := Claim7.holds Tryf.pinned (.plain (OpenSpec.ofChange propRequestOptionsLeastValuesOfPrefixSumsSpec)) propRequestOptionsLeastValuesOfPrefixSumsCard
/-- ITS FALSE NEIGHBOUR. Refute it at one input. -/
def PropRequestOptionsLeastValuesOfPrefixSumsToldWrongFalsely : Prop := Claim7.holds Tryf.pinned (.plain (OpenSpec.ofChange propRequestOptionsLeastValuesOfPrefixSumsWrong)) propRequestOptionsLeastValuesOfPrefixSumsCard
end Rows
end Go.Proofs.Qxb6003865aFmt
