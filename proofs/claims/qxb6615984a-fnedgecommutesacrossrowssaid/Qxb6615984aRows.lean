/-
  No cell of these rows narrows 'for every input' (looked for: loops, veiled, ifaces, maps, wideKeys, modest, calm, conditions, laid).
  DERIVED. THE GIVEN ROWS OF THIS SEAT. 4 by the template 'for every input the law returns true; each argument reads behind the call as it read before'; 0 by the template 'total and deterministic' (their statements: Qxb6615984aTotals.lean).
  GIVEN WITH THE SEED: the statements are not yours to turn. If you find one false, say at which input.
  Laid BY PROGRAM, IN A SANDBOX (cutbox-rows.mjs): the forced cells as the released guide's own fill.sh prints them over the translation 99456037c5038884… (all of the seat's roots in one cut). By AI agents, Wed Nov 11 2026. No macro, syntax, notation, axiom, sorry.
-/
import Derived.Test.Qxb6615984aChecked
import GoSem.Claim
import GoSem.ClaimJoined
import GoSem.ClaimMapViews
import Derived.JoinedTies
import Derived.KernelRfl
namespace Go.Proofs.Qxb6615984a
/- THE CELL 'sum', in the pinned program and in every row, IS THE sha256 OF THE DUMP (.gsa) THAT Qxb6615984aProg.lean LOADS. Nothing in Lean hashes anything: it is a label: what it is worth is what the hold of that sum in a sandbox is worth. -/
noncomputable def Try.pinned : Pinned := { name := "qxb6615984a", sum := "99456037c50388845e8091e76be8f8f3b72fa52bf3d6ae03130537cd181bffeb", checked := Try.checked }
namespace Rows
def none {H : Type} : Left H := { results := [], args := [] }

/-- 'zzlaws_internal_rules_b1.FnRethrowHandlerStepsOutward': WHATEVER THE INPUT: true; the input reads as it did. -/
def fnRethrowHandlerStepsOutwardSpec : ChangeSpec := { name := "fnRethrowHandlerStepsOutward", fn := fun _ => fun
  | [d] => { results := [.lit (.bool true)], args := [d] }
  | _ => none }
def fnRethrowHandlerStepsOutwardRow : OpenClaim := { program := "qxb6615984a", sum := "99456037c50388845e8091e76be8f8f3b72fa52bf3d6ae03130537cd181bffeb", func := "example.com/scopewright/scopewright/zzlaws_internal_rules_b1.FnRethrowHandlerStepsOutward", spec := "fnRethrowHandlerStepsOutward", apart := false }
def FnRethrowHandlerStepsOutwardSaid : Prop := fnRethrowHandlerStepsOutwardRow.holds Try.pinned (OpenSpec.ofChange fnRethrowHandlerStepsOutwardSpec)

/-- ITS FALSE NEIGHBOUR: 'it returns false'. Refute it at one input. -/
def fnRethrowHandlerStepsOutwardWrong : ChangeSpec := { name := "fnRethrowHandlerStepsOutward", fn := fun _ => fun
  | [d] => { results := [.lit (.bool false)], args := [d] }
  | _ => none }
def FnRethrowHandlerStepsOutwardWrongFalsely : Prop := fnRethrowHandlerStepsOutwardRow.holds Try.pinned (OpenSpec.ofChange fnRethrowHandlerStepsOutwardWrong)

/-- 'zzlaws_internal_rules_b1.FnRethrowHandlerPlainContextInserted': WHATEVER THE INPUT: true; the input reads as it did. -/
def fnRethrowHandlerPlainContextInsertedSpec : ChangeSpec := { name := "fnRethrowHandlerPlainContextInserted", fn := fun _ => fun
  | [d1, d2] => { results := [.lit (.bool true)], args := [d1, d2] }
  | _ => none }
def fnRethrowHandlerPlainContextInsertedRow : OpenClaim := { program := "qxb6615984a", sum := "99456037c50388845e8091e76be8f8f3b72fa52bf3d6ae03130537cd181bffeb", func := "example.com/scopewright/scopewright/zzlaws_internal_rules_b1.FnRethrowHandlerPlainContextInserted", spec := "fnRethrowHandlerPlainContextInserted", apart := false }
def FnRethrowHandlerPlainContextInsertedSaid : Prop := fnRethrowHandlerPlainContextInsertedRow.holds Try.pinned (OpenSpec.ofChange fnRethrowHandlerPlainContextInsertedSpec)

/-- ITS FALSE NEIGHBOUR: 'it returns false'. Refute it at one input. -/
def fnRethrowHandlerPlainContextInsertedWrong : ChangeSpec := { name := "fnRethrowHandlerPlainContextInserted", fn := fun _ => fun
  | [d1, d2] => { results := [.lit (.bool false)], args := [d1, d2] }
  | _ => none }
def FnRethrowHandlerPlainContextInsertedWrongFalsely : Prop := fnRethrowHandlerPlainContextInsertedRow.holds Try.pinned (OpenSpec.ofChange fnRethrowHandlerPlainContextInsertedWrong)

/-- 'zzlaws_internal_rules_b1.FnEdgeCommutesAcrossRows': WHATEVER THE INPUT: true; the input reads as it did. -/
def fnEdgeCommutesAcrossRowsSpec : ChangeSpec := { name := "fnEdgeCommutesAcrossRows", fn := fun _ => fun
  | [d1, d2, d3, d4, d5] => { results := [.lit (.bool true)], args := [d1, d2, d3, d4, d5] }
  | _ => none }
def fnEdgeCommutesAcrossRowsRow : OpenClaim := { program := "qxb6615984a", sum := "99456037c50388845e8091e76be8f8f3b72fa52bf3d6ae03130537cd181bffeb", func := "example.com/scopewright/scopewright/zzlaws_internal_rules_b1.FnEdgeCommutesAcrossRows", spec := "fnEdgeCommutesAcrossRows", apart := false }
def FnEdgeCommutesAcrossRowsSaid : Prop := fnEdgeCommutesAcrossRowsRow.holds Try.pinned (OpenSpec.ofChange fnEdgeCommutesAcrossRowsSpec)

/-- ITS FALSE NEIGHBOUR: 'it returns false'. Refute it at one input. -/
def fnEdgeCommutesAcrossRowsWrong : ChangeSpec := { name := "fnEdgeCommutesAcrossRows", fn := fun _ => fun
  | [d1, d2, d3, d4, d5] => { results := [.lit (.bool false)], args := [d1, d2, d3, d4, d5] }
  | _ => none }
def FnEdgeCommutesAcrossRowsWrongFalsely : Prop := fnEdgeCommutesAcrossRowsRow.holds Try.pinned (OpenSpec.ofChange fnEdgeCommutesAcrossRowsWrong)

/-- 'zzlaws_internal_rules_b1.FnEdgeScriptAppendsInOrder': WHATEVER THE INPUT: true; the input reads as it did. -/
def fnEdgeScriptAppendsInOrderSpec : ChangeSpec := { name := "fnEdgeScriptAppendsInOrder", fn := fun _ => fun
  | [d1, d2] => { results := [.lit (.bool true)], args := [d1, d2] }
  | _ => none }
def fnEdgeScriptAppendsInOrderRow : OpenClaim := { program := "qxb6615984a", sum := "99456037c50388845e8091e76be8f8f3b72fa52bf3d6ae03130537cd181bffeb", func := "example.com/scopewright/scopewright/zzlaws_internal_rules_b1.FnEdgeScriptAppendsInOrder", spec := "fnEdgeScriptAppendsInOrder", apart := false }
def FnEdgeScriptAppendsInOrderSaid : Prop := fnEdgeScriptAppendsInOrderRow.holds Try.pinned (OpenSpec.ofChange fnEdgeScriptAppendsInOrderSpec)

/-- ITS FALSE NEIGHBOUR: 'it returns false'. Refute it at one input. -/
def fnEdgeScriptAppendsInOrderWrong : ChangeSpec := { name := "fnEdgeScriptAppendsInOrder", fn := fun _ => fun
  | [d1, d2] => { results := [.lit (.bool false)], args := [d1, d2] }
  | _ => none }
def FnEdgeScriptAppendsInOrderWrongFalsely : Prop := fnEdgeScriptAppendsInOrderRow.holds Try.pinned (OpenSpec.ofChange fnEdgeScriptAppendsInOrderWrong)

end Rows
end Go.Proofs.Qxb6615984a
