/-
  No cell of these rows narrows 'for every input' (looked for: loops, veiled, ifaces, maps, wideKeys, modest, calm, conditions, laid).
  DERIVED. THE GIVEN ROWS OF THIS SEAT. 2 by the template 'for every input the law returns true; each argument reads behind the call as it read before'; 0 by the template 'total and deterministic' (their statements: Qxb6604368aFmtTotals.lean).
  GIVEN WITH THE SEED: the statements are not yours to turn. If you find one false, say at which input.
  Laid BY PROGRAM, IN A SANDBOX (cutbox-rows.mjs): the forced cells as the released guide's own fill.sh prints them over the translation 66becdbf6498e8ea… (all of the seat's roots in one cut). By AI agents, Wed Nov 11 2026. No macro, syntax, notation, axiom, sorry.
-/
import Derived.Test.Qxb6604368aFmtChecked
import GoSem.Claim
import GoSem.ClaimJoined
import GoSem.ClaimMapViews
import Derived.JoinedTies
import Derived.KernelRfl
namespace Go.Proofs.Qxb6604368aFmt
/- THE CELL 'sum', in the pinned program and in every row, IS THE sha256 OF THE DUMP (.gsa) THAT Qxb6604368aFmtProg.lean LOADS. Nothing in Lean hashes anything: it is a label: what it is worth is what the hold of that sum in a sandbox is worth. -/
noncomputable def Tryf.pinned : Pinned := { name := "qxb6604368afmt", sum := "66becdbf6498e8eae66157d56f5bcb1e47957871e303b4d2d49ed35f95effcb4", checked := Tryf.checked }
namespace Rows
def none {H : Type} : Left H := { results := [], args := [] }

/-- 'zzlaws_root_b1.FnDocumentRefusesOnlyAtItsLimits': WHATEVER THE INPUT: true; the input reads as it did. -/
def fnDocumentRefusesOnlyAtItsLimitsSpec : ChangeSpec := { name := "fnDocumentRefusesOnlyAtItsLimits", fn := fun _ => fun
  | [d1, d2, d3, d4] => { results := [.lit (.bool true)], args := [d1, d2, d3, d4] }
  | _ => none }
def fnDocumentRefusesOnlyAtItsLimitsRow : OpenClaim := { program := "qxb6604368afmt", sum := "66becdbf6498e8eae66157d56f5bcb1e47957871e303b4d2d49ed35f95effcb4", func := "example.com/parley/parley/zzlaws_root_b1.FnDocumentRefusesOnlyAtItsLimits", spec := "fnDocumentRefusesOnlyAtItsLimits", stops := ["fmt.errorf"], inPlace := ["internal/bytealg.Count", "internal/bytealg.IndexByte", "internal/bytealg.Index", "fmt.errorf"], unfollowed := true, recurses := true, named := ["internal/bytealg.MaxLen"], apart := false }
/-- NO THEOREM (fmt's text is open here; it may be false): for the released tool's asking of the row's closed facts alone. THE STATEMENT IS 'FnDocumentRefusesOnlyAtItsLimitsToldSaid' (Qxb6604368aFmtCards.lean). -/
def FnDocumentRefusesOnlyAtItsLimitsFormAsk : Prop := fnDocumentRefusesOnlyAtItsLimitsRow.holds Tryf.pinned (OpenSpec.ofChange fnDocumentRefusesOnlyAtItsLimitsSpec)

/-- ITS FALSE NEIGHBOUR: 'it returns false'. Refute it at one input. -/
def fnDocumentRefusesOnlyAtItsLimitsWrong : ChangeSpec := { name := "fnDocumentRefusesOnlyAtItsLimits", fn := fun _ => fun
  | [d1, d2, d3, d4] => { results := [.lit (.bool false)], args := [d1, d2, d3, d4] }
  | _ => none }
def FnDocumentRefusesOnlyAtItsLimitsWrongFormAsk : Prop := fnDocumentRefusesOnlyAtItsLimitsRow.holds Tryf.pinned (OpenSpec.ofChange fnDocumentRefusesOnlyAtItsLimitsWrong)

/-- 'zzlaws_root_b1.FnDocumentMeasuresAKeyValue': WHATEVER THE INPUT: true; the input reads as it did. -/
def fnDocumentMeasuresAKeyValueSpec : ChangeSpec := { name := "fnDocumentMeasuresAKeyValue", fn := fun _ => fun
  | [d1, d2] => { results := [.lit (.bool true)], args := [d1, d2] }
  | _ => none }
def fnDocumentMeasuresAKeyValueRow : OpenClaim := { program := "qxb6604368afmt", sum := "66becdbf6498e8eae66157d56f5bcb1e47957871e303b4d2d49ed35f95effcb4", func := "example.com/parley/parley/zzlaws_root_b1.FnDocumentMeasuresAKeyValue", spec := "fnDocumentMeasuresAKeyValue", stops := ["fmt.errorf"], inPlace := ["internal/bytealg.Count", "internal/bytealg.IndexByte", "internal/bytealg.Index", "fmt.errorf"], unfollowed := true, recurses := true, named := ["internal/bytealg.MaxLen"], apart := false }
/-- NO THEOREM (fmt's text is open here; it may be false): for the released tool's asking of the row's closed facts alone. THE STATEMENT IS 'FnDocumentMeasuresAKeyValueToldSaid' (Qxb6604368aFmtCards.lean). -/
def FnDocumentMeasuresAKeyValueFormAsk : Prop := fnDocumentMeasuresAKeyValueRow.holds Tryf.pinned (OpenSpec.ofChange fnDocumentMeasuresAKeyValueSpec)

/-- ITS FALSE NEIGHBOUR: 'it returns false'. Refute it at one input. -/
def fnDocumentMeasuresAKeyValueWrong : ChangeSpec := { name := "fnDocumentMeasuresAKeyValue", fn := fun _ => fun
  | [d1, d2] => { results := [.lit (.bool false)], args := [d1, d2] }
  | _ => none }
def FnDocumentMeasuresAKeyValueWrongFormAsk : Prop := fnDocumentMeasuresAKeyValueRow.holds Tryf.pinned (OpenSpec.ofChange fnDocumentMeasuresAKeyValueWrong)

end Rows
end Go.Proofs.Qxb6604368aFmt
