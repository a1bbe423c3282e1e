/-
  No cell of these rows narrows 'for every input' (looked for: loops, veiled, ifaces, maps, wideKeys, modest, calm, conditions, laid).
  DERIVED. THE GIVEN ROWS OF THIS SEAT. 3 by the template 'for every input the law returns true; each argument reads behind the call as it read before'; 0 by the template 'total and deterministic' (their statements: Qxb6003774aTotals.lean).
  GIVEN WITH THE SEED: the statements are not yours to turn. If you find one false, say at which input.
  Laid BY PROGRAM, IN A SANDBOX (cutbox-rows.mjs): the forced cells as the released guide's own fill.sh prints them over the translation 06b7d9b5b5daff5f… (all of the seat's roots in one cut). By AI agents, Wed Nov 11 2026. No macro, syntax, notation, axiom, sorry.
-/
import Derived.Test.Qxb6003774aChecked
import GoSem.Claim
import GoSem.ClaimJoined
import GoSem.ClaimMapViews
import Derived.JoinedTies
import Derived.KernelRfl
namespace Go.Proofs.Qxb6003774a
/- THE CELL 'sum', in the pinned program and in every row, IS THE sha256 OF THE DUMP (.gsa) THAT Qxb6003774aProg.lean LOADS. Nothing in Lean hashes anything: it is a label: what it is worth is what the hold of that sum in a sandbox is worth. -/
noncomputable def Try.pinned : Pinned := { name := "qxb6003774a", sum := "06b7d9b5b5daff5f0b41775f5af554c6f0b09f8ab86a904b7a228566a8a1de11", checked := Try.checked }
namespace Rows
def none {H : Type} : Left H := { results := [], args := [] }

/-- 'zzlaws_internal_markdown_g1.FnThematicBreakMemoAgreesWithFreshReads': WHATEVER THE INPUT: true; the input reads as it did. -/
def fnThematicBreakMemoAgreesWithFreshReadsSpec : ChangeSpec := { name := "fnThematicBreakMemoAgreesWithFreshReads", fn := fun _ => fun
  | [d1, d2] => { results := [.lit (.bool true)], args := [d1, d2] }
  | _ => none }
def fnThematicBreakMemoAgreesWithFreshReadsRow : OpenClaim := { program := "qxb6003774a", sum := "06b7d9b5b5daff5f0b41775f5af554c6f0b09f8ab86a904b7a228566a8a1de11", func := "example.com/exact-tangle/exact-tangle/zzlaws_internal_markdown_g1.FnThematicBreakMemoAgreesWithFreshReads", spec := "fnThematicBreakMemoAgreesWithFreshReads", apart := false }
def FnThematicBreakMemoAgreesWithFreshReadsSaid : Prop := fnThematicBreakMemoAgreesWithFreshReadsRow.holds Try.pinned (OpenSpec.ofChange fnThematicBreakMemoAgreesWithFreshReadsSpec)

/-- ITS FALSE NEIGHBOUR: 'it returns false'. Refute it at one input. -/
def fnThematicBreakMemoAgreesWithFreshReadsWrong : ChangeSpec := { name := "fnThematicBreakMemoAgreesWithFreshReads", fn := fun _ => fun
  | [d1, d2] => { results := [.lit (.bool false)], args := [d1, d2] }
  | _ => none }
def FnThematicBreakMemoAgreesWithFreshReadsWrongFalsely : Prop := fnThematicBreakMemoAgreesWithFreshReadsRow.holds Try.pinned (OpenSpec.ofChange fnThematicBreakMemoAgreesWithFreshReadsWrong)

/-- 'zzlaws_internal_markdown_g1.FnAdvanceSplitsAdditively': WHATEVER THE INPUT: true; the input reads as it did. -/
def fnAdvanceSplitsAdditivelySpec : ChangeSpec := { name := "fnAdvanceSplitsAdditively", fn := fun _ => fun
  | [d1, d2, d3, d4] => { results := [.lit (.bool true)], args := [d1, d2, d3, d4] }
  | _ => none }
def fnAdvanceSplitsAdditivelyRow : OpenClaim := { program := "qxb6003774a", sum := "06b7d9b5b5daff5f0b41775f5af554c6f0b09f8ab86a904b7a228566a8a1de11", func := "example.com/exact-tangle/exact-tangle/zzlaws_internal_markdown_g1.FnAdvanceSplitsAdditively", spec := "fnAdvanceSplitsAdditively", apart := false }
def FnAdvanceSplitsAdditivelySaid : Prop := fnAdvanceSplitsAdditivelyRow.holds Try.pinned (OpenSpec.ofChange fnAdvanceSplitsAdditivelySpec)

/-- ITS FALSE NEIGHBOUR: 'it returns false'. Refute it at one input. -/
def fnAdvanceSplitsAdditivelyWrong : ChangeSpec := { name := "fnAdvanceSplitsAdditively", fn := fun _ => fun
  | [d1, d2, d3, d4] => { results := [.lit (.bool false)], args := [d1, d2, d3, d4] }
  | _ => none }
def FnAdvanceSplitsAdditivelyWrongFalsely : Prop := fnAdvanceSplitsAdditivelyRow.holds Try.pinned (OpenSpec.ofChange fnAdvanceSplitsAdditivelyWrong)

/-- 'zzlaws_internal_markdown_g1.FnAttributeValueIsLongestUnquotedOrFirstClosedQuote': WHATEVER THE INPUT: true; the input reads as it did. -/
def fnAttributeValueIsLongestUnquotedOrFirstClosedQuoteSpec : ChangeSpec := { name := "fnAttributeValueIsLongestUnquotedOrFirstClosedQuote", fn := fun _ => fun
  | [d] => { results := [.lit (.bool true)], args := [d] }
  | _ => none }
def fnAttributeValueIsLongestUnquotedOrFirstClosedQuoteRow : OpenClaim := { program := "qxb6003774a", sum := "06b7d9b5b5daff5f0b41775f5af554c6f0b09f8ab86a904b7a228566a8a1de11", func := "example.com/exact-tangle/exact-tangle/zzlaws_internal_markdown_g1.FnAttributeValueIsLongestUnquotedOrFirstClosedQuote", spec := "fnAttributeValueIsLongestUnquotedOrFirstClosedQuote", inPlace := ["internal/bytealg.IndexByte", "internal/bytealg.IndexByteString"], apart := false }
def FnAttributeValueIsLongestUnquotedOrFirstClosedQuoteSaid : Prop := fnAttributeValueIsLongestUnquotedOrFirstClosedQuoteRow.holds Try.pinned (OpenSpec.ofChange fnAttributeValueIsLongestUnquotedOrFirstClosedQuoteSpec)

/-- ITS FALSE NEIGHBOUR: 'it returns false'. Refute it at one input. -/
def fnAttributeValueIsLongestUnquotedOrFirstClosedQuoteWrong : ChangeSpec := { name := "fnAttributeValueIsLongestUnquotedOrFirstClosedQuote", fn := fun _ => fun
  | [d] => { results := [.lit (.bool false)], args := [d] }
  | _ => none }
def FnAttributeValueIsLongestUnquotedOrFirstClosedQuoteWrongFalsely : Prop := fnAttributeValueIsLongestUnquotedOrFirstClosedQuoteRow.holds Try.pinned (OpenSpec.ofChange fnAttributeValueIsLongestUnquotedOrFirstClosedQuoteWrong)

end Rows
end Go.Proofs.Qxb6003774a
