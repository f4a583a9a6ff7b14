/-
  DERIVED. GIVEN WITH THE SEED: THE CARDS: each row of Qxb6604368aFmtRows.lean that lists a variable, with what it lists TIED to the program's text (the seventh form; the later family's looks); each row that meets fmt, with fmt's text TOLD by the authors' own Lean function (tested against real Go, not proved from fmt's source: count such statements apart). THE CARD IS WHAT COUNTS. Prove the row's statement (the work); the ties are given (Qxb6604368aFmtTie.lean); close each card by the builder's one call (the guide's Derived/Test/ToyasCard.lean, 'card_holds'). Laid BY PROGRAM, IN A SANDBOX (cutbox-door.mjs). By AI agents, Wed Nov 11 2026. No macro, syntax, notation, axiom, sorry.
-/
import Derived.Test.Qxb6604368aFmtRows
import GoSem.ClaimSeven
namespace Go.Proofs.Qxb6604368aFmt
namespace Rows

/-- THE TOLD CARD OF 'zzlaws_root_b1.FnDocumentRefusesOnlyAtItsLimits'. -/
def fnDocumentRefusesOnlyAtItsLimitsCard : Claim7 := { stood := { row := fnDocumentRefusesOnlyAtItsLimitsRow, standIns := [], harness := (true, "15426c000cd01671f1db333c59bfadb6145d7f6254dc61293a0053def1c132a8"), looks := false }, told := true, goes := false }
def FnDocumentRefusesOnlyAtItsLimitsToldSaid : Prop := Claim7.holds Tryf.pinned (.plain (OpenSpec.ofChange fnDocumentRefusesOnlyAtItsLimitsSpec)) fnDocumentRefusesOnlyAtItsLimitsCard
/-- ITS FALSE NEIGHBOUR. Refute it at one input. -/
def FnDocumentRefusesOnlyAtItsLimitsToldWrongFalsely : Prop := Claim7.holds Tryf.pinned (.plain (OpenSpec.ofChange fnDocumentRefusesOnlyAtItsLimitsWrong)) fnDocumentRefusesOnlyAtItsLimitsCard

/-- THE TOLD CARD OF 'zzlaws_root_b1.FnDocumentMeasuresAKeyValue'. -/
def fnDocumentMeasuresAKeyValueCard : Claim7 := { stood := { row := fnDocumentMeasuresAKeyValueRow, standIns := [], harness := (true, "15426c000cd01671f1db333c59bfadb6145d7f6254dc61293a0053def1c132a8"), looks := false }, told := true, goes := false }
def FnDocumentMeasuresAKeyValueToldSaid : Prop := Claim7.holds Tryf.pinned (.plain (OpenSpec.ofChange fnDocumentMeasuresAKeyValueSpec)) fnDocumentMeasuresAKeyValueCard
/-- ITS FALSE NEIGHBOUR. Refute it at one input. -/
def FnDocumentMeasuresAKeyValueToldWrongFalsely : Prop := Claim7.holds Tryf.pinned (.plain (OpenSpec.ofChange fnDocumentMeasuresAKeyValueWrong)) fnDocumentMeasuresAKeyValueCard
end Rows
end Go.Proofs.Qxb6604368aFmt
