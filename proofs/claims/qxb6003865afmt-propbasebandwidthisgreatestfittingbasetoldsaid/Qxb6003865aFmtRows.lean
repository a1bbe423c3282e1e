/-
  NARROWER THAN 'FOR EVERY INPUT', by the rows' own cells (each row's printed sentence says how): PropDefaultParamsValidOnShardRange: laid.
  DERIVED. THE GIVEN ROWS OF THIS SEAT. 4 by the template 'for every input the law returns true; each argument reads behind the call as it read before'; 0 by the template 'total and deterministic' (their statements: Qxb6003865aFmtTotals.lean).
  GIVEN WITH THE SEED: the statements are not yours to turn. If you find one false, say at which input.
  Laid BY PROGRAM, IN A SANDBOX (cutbox-rows.mjs): the forced cells as the released guide's own fill.sh prints them over the translation 18c392e264ca9f16… (all of the seat's roots in one cut). By AI agents, Wed Nov 11 2026. No macro, syntax, notation, axiom, sorry.
-/
import Derived.Test.Qxb6003865aFmtChecked
import GoSem.Claim
import GoSem.ClaimJoined
import GoSem.ClaimMapViews
import Derived.JoinedTies
import Derived.KernelRfl
namespace Go.Proofs.Qxb6003865aFmt
/- THE CELL 'sum', in the pinned program and in every row, IS THE sha256 OF THE DUMP (.gsa) THAT Qxb6003865aFmtProg.lean LOADS. Nothing in Lean hashes anything: it is a label: what it is worth is what the hold of that sum in a sandbox is worth. -/
noncomputable def Tryf.pinned : Pinned := { name := "qxb6003865afmt", sum := "18c392e264ca9f164db635f604dbbed30dd9e52e353818d1399943b2cb5f17b1", checked := Tryf.checked }
namespace Rows
def none {H : Type} : Left H := { results := [], args := [] }

/- WHAT THE LISTED PACKAGE-LEVEL VARIABLES READ AS WHEN THE CALL BEGINS. Each datum BY PROGRAM (the guide's laid-datum.mjs) off the statement by which the dump's own 'gosem.cut.vars' lays the variable. In a bare row this is a premise. The card (Qxb6003865aFmtCards.lean) ties it to the program's text. -/
def laid_errors_errorType {H : Type} : DataW H := .iface "internal/reflectlite.rtype" (.agg [.ptr (.lit (.string [101, 114, 114, 111, 114]))])

/-- 'zzlaws_bandwidth_c1.PropBaseBandwidthIsGreatestFittingBase': WHATEVER THE INPUT: true; the input reads as it did. -/
def propBaseBandwidthIsGreatestFittingBaseSpec : ChangeSpec := { name := "propBaseBandwidthIsGreatestFittingBase", fn := fun _ => fun
  | [d1, d2, d3, d4] => { results := [.lit (.bool true)], args := [d1, d2, d3, d4] }
  | _ => none }
def propBaseBandwidthIsGreatestFittingBaseRow : OpenClaim := { program := "qxb6003865afmt", sum := "18c392e264ca9f164db635f604dbbed30dd9e52e353818d1399943b2cb5f17b1", func := "example.com/shardwire/shardwire/zzlaws_bandwidth_c1.PropBaseBandwidthIsGreatestFittingBase", spec := "propBaseBandwidthIsGreatestFittingBase", stops := ["fmt.Sprintf"], inPlace := ["fmt.Sprintf"], apart := false }
/-- NO THEOREM (fmt's text is open here; it may be false): for the released tool's asking of the row's closed facts alone. THE STATEMENT IS 'PropBaseBandwidthIsGreatestFittingBaseToldSaid' (Qxb6003865aFmtCards.lean). -/
def PropBaseBandwidthIsGreatestFittingBaseFormAsk : Prop := propBaseBandwidthIsGreatestFittingBaseRow.holds Tryf.pinned (OpenSpec.ofChange propBaseBandwidthIsGreatestFittingBaseSpec)

/-- ITS FALSE NEIGHBOUR: 'it returns false'. Refute it at one input. -/
def propBaseBandwidthIsGreatestFittingBaseWrong : ChangeSpec := { name := "propBaseBandwidthIsGreatestFittingBase", fn := fun _ => fun
  | [d1, d2, d3, d4] => { results := [.lit (.bool false)], args := [d1, d2, d3, d4] }
  | _ => none }
def PropBaseBandwidthIsGreatestFittingBaseWrongFormAsk : Prop := propBaseBandwidthIsGreatestFittingBaseRow.holds Tryf.pinned (OpenSpec.ofChange propBaseBandwidthIsGreatestFittingBaseWrong)

/-- 'zzlaws_bandwidth_c1.PropDefaultParamsValidOnShardRange': WHATEVER THE INPUT: true; the input reads as it did. -/
def propDefaultParamsValidOnShardRangeSpec : ChangeSpec := { name := "propDefaultParamsValidOnShardRange", fn := fun _ => fun
  | [d] => { results := [.lit (.bool true)], args := [d] }
  | _ => none }
def propDefaultParamsValidOnShardRangeRow : OpenClaim := { program := "qxb6003865afmt", sum := "18c392e264ca9f164db635f604dbbed30dd9e52e353818d1399943b2cb5f17b1", func := "example.com/shardwire/shardwire/zzlaws_bandwidth_c1.PropDefaultParamsValidOnShardRange", spec := "propDefaultParamsValidOnShardRange", stops := ["fmt.Sprintf"], inPlace := ["fmt.Sprintf", "internal/reflectlite.ValueOf", "(internal/reflectlite.Value).Type", "(internal/reflectlite.Value).IsNil", "internal/reflectlite.TypeOf", "(internal/reflectlite.Value).Elem", "(internal/reflectlite.Value).Set"], unfollowed := true, recurses := true, named := ["errors.errorType"], apart := false, laid := [("errors.errorType", laid_errors_errorType)] }
/-- NO THEOREM (fmt's text is open here; it may be false): for the released tool's asking of the row's closed facts alone. THE STATEMENT IS 'PropDefaultParamsValidOnShardRangeToldSaid' (Qxb6003865aFmtCards.lean). -/
def PropDefaultParamsValidOnShardRangeFormAsk : Prop := propDefaultParamsValidOnShardRangeRow.holds Tryf.pinned (OpenSpec.ofChange propDefaultParamsValidOnShardRangeSpec)

/-- ITS FALSE NEIGHBOUR: 'it returns false'. Refute it at one input. -/
def propDefaultParamsValidOnShardRangeWrong : ChangeSpec := { name := "propDefaultParamsValidOnShardRange", fn := fun _ => fun
  | [d] => { results := [.lit (.bool false)], args := [d] }
  | _ => none }
def PropDefaultParamsValidOnShardRangeWrongFormAsk : Prop := propDefaultParamsValidOnShardRangeRow.holds Tryf.pinned (OpenSpec.ofChange propDefaultParamsValidOnShardRangeWrong)

/-- 'zzlaws_bandwidth_c1.PropRequestValuesAreExactFortieths': WHATEVER THE INPUT: true; the input reads as it did. -/
def propRequestValuesAreExactFortiethsSpec : ChangeSpec := { name := "propRequestValuesAreExactFortieths", fn := fun _ => fun
  | [d] => { results := [.lit (.bool true)], args := [d] }
  | _ => none }
def propRequestValuesAreExactFortiethsRow : OpenClaim := { program := "qxb6003865afmt", sum := "18c392e264ca9f164db635f604dbbed30dd9e52e353818d1399943b2cb5f17b1", func := "example.com/shardwire/shardwire/zzlaws_bandwidth_c1.PropRequestValuesAreExactFortieths", spec := "propRequestValuesAreExactFortieths", stops := ["fmt.Sprintf"], inPlace := ["fmt.Sprintf"], apart := false }
/-- NO THEOREM (fmt's text is open here; it may be false): for the released tool's asking of the row's closed facts alone. THE STATEMENT IS 'PropRequestValuesAreExactFortiethsToldSaid' (Qxb6003865aFmtCards.lean). -/
def PropRequestValuesAreExactFortiethsFormAsk : Prop := propRequestValuesAreExactFortiethsRow.holds Tryf.pinned (OpenSpec.ofChange propRequestValuesAreExactFortiethsSpec)

/-- ITS FALSE NEIGHBOUR: 'it returns false'. Refute it at one input. -/
def propRequestValuesAreExactFortiethsWrong : ChangeSpec := { name := "propRequestValuesAreExactFortieths", fn := fun _ => fun
  | [d] => { results := [.lit (.bool false)], args := [d] }
  | _ => none }
def PropRequestValuesAreExactFortiethsWrongFormAsk : Prop := propRequestValuesAreExactFortiethsRow.holds Tryf.pinned (OpenSpec.ofChange propRequestValuesAreExactFortiethsWrong)

/-- 'zzlaws_bandwidth_c1.PropRequestOptionsLeastValuesOfPrefixSums': WHATEVER THE INPUT: true; the input reads as it did. -/
def propRequestOptionsLeastValuesOfPrefixSumsSpec : ChangeSpec := { name := "propRequestOptionsLeastValuesOfPrefixSums", fn := fun _ => fun
  | [d1, d2] => { results := [.lit (.bool true)], args := [d1, d2] }
  | _ => none }
def propRequestOptionsLeastValuesOfPrefixSumsRow : OpenClaim := { program := "qxb6003865afmt", sum := "18c392e264ca9f164db635f604dbbed30dd9e52e353818d1399943b2cb5f17b1", func := "example.com/shardwire/shardwire/zzlaws_bandwidth_c1.PropRequestOptionsLeastValuesOfPrefixSums", spec := "propRequestOptionsLeastValuesOfPrefixSums", stops := ["fmt.Sprintf"], inPlace := ["fmt.Sprintf"], apart := false }
/-- NO THEOREM (fmt's text is open here; it may be false): for the released tool's asking of the row's closed facts alone. THE STATEMENT IS 'PropRequestOptionsLeastValuesOfPrefixSumsToldSaid' (Qxb6003865aFmtCards.lean). -/
def PropRequestOptionsLeastValuesOfPrefixSumsFormAsk : Prop := propRequestOptionsLeastValuesOfPrefixSumsRow.holds Tryf.pinned (OpenSpec.ofChange propRequestOptionsLeastValuesOfPrefixSumsSpec)

/-- ITS FALSE NEIGHBOUR: 'it returns false'. Refute it at one input. -/
def propRequestOptionsLeastValuesOfPrefixSumsWrong : ChangeSpec := { name := "propRequestOptionsLeastValuesOfPrefixSums", fn := fun _ => fun
  | [d1, d2] => { results := [.lit (.bool false)], args := [d1, d2] }
  | _ => none }
def PropRequestOptionsLeastValuesOfPrefixSumsWrongFormAsk : Prop := propRequestOptionsLeastValuesOfPrefixSumsRow.holds Tryf.pinned (OpenSpec.ofChange propRequestOptionsLeastValuesOfPrefixSumsWrong)

end Rows
end Go.Proofs.Qxb6003865aFmt
