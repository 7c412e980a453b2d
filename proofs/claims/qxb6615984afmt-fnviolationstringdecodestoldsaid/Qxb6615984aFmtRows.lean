/-
  No cell of these rows narrows 'for every input' (looked for: loops, veiled, ifaces, maps, wideKeys, modest, calm, conditions, laid).
  DERIVED. THE GIVEN ROWS OF THIS SEAT. 2 by the template 'for every input the law returns true; each argument reads behind the call as it read before'; 0 by the template 'total and deterministic' (their statements: Qxb6615984aFmtTotals.lean).
  GIVEN WITH THE SEED: the statements are not yours to turn. If you find one false, say at which input.
  Laid BY PROGRAM, IN A SANDBOX (cutbox-rows.mjs): the forced cells as the released guide's own fill.sh prints them over the translation e691c2e3d13294e6… (all of the seat's roots in one cut). By AI agents, Wed Nov 11 2026. No macro, syntax, notation, axiom, sorry.
-/
import Derived.Test.Qxb6615984aFmtChecked
import GoSem.Claim
import GoSem.ClaimJoined
import GoSem.ClaimMapViews
import Derived.JoinedTies
import Derived.KernelRfl
namespace Go.Proofs.Qxb6615984aFmt
/- THE CELL 'sum', in the pinned program and in every row, IS THE sha256 OF THE DUMP (.gsa) THAT Qxb6615984aFmtProg.lean LOADS. Nothing in Lean hashes anything: it is a label: what it is worth is what the hold of that sum in a sandbox is worth. -/
noncomputable def Tryf.pinned : Pinned := { name := "qxb6615984afmt", sum := "e691c2e3d13294e60c34d13e1658e9079b1f9ceba70f297b1aae91f11faae954", checked := Tryf.checked }
namespace Rows
def none {H : Type} : Left H := { results := [], args := [] }

/-- 'zzlaws_internal_rules_b1.FnViolationStringMessageCut': WHATEVER THE INPUT: true; the input reads as it did. -/
def fnViolationStringMessageCutSpec : ChangeSpec := { name := "fnViolationStringMessageCut", fn := fun _ => fun
  | [d1, d2, d3, d4] => { results := [.lit (.bool true)], args := [d1, d2, d3, d4] }
  | _ => none }
def fnViolationStringMessageCutRow : OpenClaim := { program := "qxb6615984afmt", sum := "e691c2e3d13294e60c34d13e1658e9079b1f9ceba70f297b1aae91f11faae954", func := "example.com/scopewright/scopewright/zzlaws_internal_rules_b1.FnViolationStringMessageCut", spec := "fnViolationStringMessageCut", stops := ["fmt.Sprintf"], inPlace := ["fmt.Sprintf"], apart := false }
/-- NO THEOREM (fmt's text is open here; it may be false): for the released tool's asking of the row's closed facts alone. THE STATEMENT IS 'FnViolationStringMessageCutToldSaid' (Qxb6615984aFmtCards.lean). -/
def FnViolationStringMessageCutFormAsk : Prop := fnViolationStringMessageCutRow.holds Tryf.pinned (OpenSpec.ofChange fnViolationStringMessageCutSpec)

/-- ITS FALSE NEIGHBOUR: 'it returns false'. Refute it at one input. -/
def fnViolationStringMessageCutWrong : ChangeSpec := { name := "fnViolationStringMessageCut", fn := fun _ => fun
  | [d1, d2, d3, d4] => { results := [.lit (.bool false)], args := [d1, d2, d3, d4] }
  | _ => none }
def FnViolationStringMessageCutWrongFormAsk : Prop := fnViolationStringMessageCutRow.holds Tryf.pinned (OpenSpec.ofChange fnViolationStringMessageCutWrong)

/-- 'zzlaws_internal_rules_b1.FnViolationStringDecodes': WHATEVER THE INPUT: true; the input reads as it did. -/
def fnViolationStringDecodesSpec : ChangeSpec := { name := "fnViolationStringDecodes", fn := fun _ => fun
  | [d1, d2, d3, d4, d5, d6] => { results := [.lit (.bool true)], args := [d1, d2, d3, d4, d5, d6] }
  | _ => none }
def fnViolationStringDecodesRow : OpenClaim := { program := "qxb6615984afmt", sum := "e691c2e3d13294e60c34d13e1658e9079b1f9ceba70f297b1aae91f11faae954", func := "example.com/scopewright/scopewright/zzlaws_internal_rules_b1.FnViolationStringDecodes", spec := "fnViolationStringDecodes", stops := ["fmt.Sprintf"], inPlace := ["fmt.Sprintf"], apart := false }
/-- NO THEOREM (fmt's text is open here; it may be false): for the released tool's asking of the row's closed facts alone. THE STATEMENT IS 'FnViolationStringDecodesToldSaid' (Qxb6615984aFmtCards.lean). -/
def FnViolationStringDecodesFormAsk : Prop := fnViolationStringDecodesRow.holds Tryf.pinned (OpenSpec.ofChange fnViolationStringDecodesSpec)

/-- ITS FALSE NEIGHBOUR: 'it returns false'. Refute it at one input. -/
def fnViolationStringDecodesWrong : ChangeSpec := { name := "fnViolationStringDecodes", fn := fun _ => fun
  | [d1, d2, d3, d4, d5, d6] => { results := [.lit (.bool false)], args := [d1, d2, d3, d4, d5, d6] }
  | _ => none }
def FnViolationStringDecodesWrongFormAsk : Prop := fnViolationStringDecodesRow.holds Tryf.pinned (OpenSpec.ofChange fnViolationStringDecodesWrong)

end Rows
end Go.Proofs.Qxb6615984aFmt
