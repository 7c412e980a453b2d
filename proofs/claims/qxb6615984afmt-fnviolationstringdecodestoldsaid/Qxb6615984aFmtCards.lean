/-
  DERIVED. GIVEN WITH THE SEED: THE CARDS: each row of Qxb6615984aFmtRows.lean that lists a variable, with what it lists TIED to the program's text (the seventh form; the later family's looks); each row that meets fmt, with fmt's text TOLD by the authors' own Lean function (tested against real Go, not proved from fmt's source: count such statements apart). THE CARD IS WHAT COUNTS. Prove the row's statement (the work); the ties are given (Qxb6615984aFmtTie.lean); close each card by the builder's one call (the guide's Derived/Test/ToyasCard.lean, 'card_holds'). Laid BY PROGRAM, IN A SANDBOX (cutbox-door.mjs). By AI agents, Wed Nov 11 2026. No macro, syntax, notation, axiom, sorry.
-/
import Derived.Test.Qxb6615984aFmtRows
import GoSem.ClaimSeven
namespace Go.Proofs.Qxb6615984aFmt
namespace Rows

/-- THE TOLD CARD OF 'zzlaws_internal_rules_b1.FnViolationStringMessageCut'. -/
def fnViolationStringMessageCutCard : Claim7 := { stood := { row := fnViolationStringMessageCutRow, standIns := [], harness := (true, "b13bb6c685aba9c6c88376961a3680c9b1d9604d5c3642ee450e3dcbb68aa19f"), looks := false }, told := true, goes := false }
def FnViolationStringMessageCutToldSaid : Prop := Claim7.holds Tryf.pinned (.plain (OpenSpec.ofChange fnViolationStringMessageCutSpec)) fnViolationStringMessageCutCard
/-- ITS FALSE NEIGHBOUR. Refute it at one input. -/
def FnViolationStringMessageCutToldWrongFalsely : Prop := Claim7.holds Tryf.pinned (.plain (OpenSpec.ofChange fnViolationStringMessageCutWrong)) fnViolationStringMessageCutCard

/-- THE TOLD CARD OF 'zzlaws_internal_rules_b1.FnViolationStringDecodes'. -/
def fnViolationStringDecodesCard : Claim7 := { stood := { row := fnViolationStringDecodesRow, standIns := [], harness := (true, "b13bb6c685aba9c6c88376961a3680c9b1d9604d5c3642ee450e3dcbb68aa19f"), looks := false }, told := true, goes := false }
def FnViolationStringDecodesToldSaid : Prop := Claim7.holds Tryf.pinned (.plain (OpenSpec.ofChange fnViolationStringDecodesSpec)) fnViolationStringDecodesCard
/-- ITS FALSE NEIGHBOUR. Refute it at one input. -/
def FnViolationStringDecodesToldWrongFalsely : Prop := Claim7.holds Tryf.pinned (.plain (OpenSpec.ofChange fnViolationStringDecodesWrong)) fnViolationStringDecodesCard
end Rows
end Go.Proofs.Qxb6615984aFmt
