/-
  No cell of these rows narrows 'for every input' (looked for: loops, veiled, ifaces, maps, wideKeys, modest, calm, conditions, laid).
  DERIVED. THE GIVEN ROWS OF THIS SEAT. 1 by the template 'for every input the law returns true; each argument reads behind the call as it read before'; 0 by the template 'total and deterministic' (their statements: Qxb6003696aTotals.lean).
  GIVEN WITH THE SEED: the statements are not yours to turn. If you find one false, say at which input.
  Laid BY PROGRAM, IN A SANDBOX (cutbox-rows.mjs): the forced cells as the released guide's own fill.sh prints them over the translation 3487ae1bd650b2a6… (all of the seat's roots in one cut). By AI agents, Wed Nov 11 2026. No macro, syntax, notation, axiom, sorry.
-/
import Derived.Test.Qxb6003696aChecked
import GoSem.Claim
import GoSem.ClaimJoined
import GoSem.ClaimMapViews
import Derived.JoinedTies
import Derived.KernelRfl
namespace Go.Proofs.Qxb6003696a
/- THE CELL 'sum', in the pinned program and in every row, IS THE sha256 OF THE DUMP (.gsa) THAT Qxb6003696aProg.lean LOADS. Nothing in Lean hashes anything: it is a label: what it is worth is what the hold of that sum in a sandbox is worth. -/
noncomputable def Try.pinned : Pinned := { name := "qxb6003696a", sum := "3487ae1bd650b2a663d5f47d1bdb6f93fe9f2fba6f2081630be75da9664cc012", checked := Try.checked }
namespace Rows
def none {H : Type} : Left H := { results := [], args := [] }

/-- 'zzlaws_internal_ring_g2.FnVisitScriptKeepsItsBounds': WHATEVER THE INPUT: true; the input reads as it did. -/
def fnVisitScriptKeepsItsBoundsSpec : ChangeSpec := { name := "fnVisitScriptKeepsItsBounds", fn := fun _ => fun
  | [d1, d2, d3] => { results := [.lit (.bool true)], args := [d1, d2, d3] }
  | _ => none }
def fnVisitScriptKeepsItsBoundsRow : OpenClaim := { program := "qxb6003696a", sum := "3487ae1bd650b2a663d5f47d1bdb6f93fe9f2fba6f2081630be75da9664cc012", func := "example.com/ringcast/ringcast/zzlaws_internal_ring_g2.FnVisitScriptKeepsItsBounds", spec := "fnVisitScriptKeepsItsBounds", apart := false }
def FnVisitScriptKeepsItsBoundsSaid : Prop := fnVisitScriptKeepsItsBoundsRow.holds Try.pinned (OpenSpec.ofChange fnVisitScriptKeepsItsBoundsSpec)

/-- ITS FALSE NEIGHBOUR: 'it returns false'. Refute it at one input. -/
def fnVisitScriptKeepsItsBoundsWrong : ChangeSpec := { name := "fnVisitScriptKeepsItsBounds", fn := fun _ => fun
  | [d1, d2, d3] => { results := [.lit (.bool false)], args := [d1, d2, d3] }
  | _ => none }
def FnVisitScriptKeepsItsBoundsWrongFalsely : Prop := fnVisitScriptKeepsItsBoundsRow.holds Try.pinned (OpenSpec.ofChange fnVisitScriptKeepsItsBoundsWrong)

end Rows
end Go.Proofs.Qxb6003696a
