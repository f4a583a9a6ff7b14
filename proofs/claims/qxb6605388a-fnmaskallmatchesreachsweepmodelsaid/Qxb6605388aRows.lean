/-
  No cell of these rows narrows 'for every input' (looked for: loops, veiled, ifaces, maps, wideKeys, modest, calm, conditions, laid).
  DERIVED. THE GIVEN ROWS OF THIS SEAT. 3 by the template 'for every input the law returns true; each argument reads behind the call as it read before'; 0 by the template 'total and deterministic' (their statements: Qxb6605388aTotals.lean).
  GIVEN WITH THE SEED: the statements are not yours to turn. If you find one false, say at which input.
  Laid BY PROGRAM, IN A SANDBOX (cutbox-rows.mjs): the forced cells as the released guide's own fill.sh prints them over the translation 76a7b9651f7b7c20… (all of the seat's roots in one cut). By AI agents, Wed Nov 11 2026. No macro, syntax, notation, axiom, sorry.
-/
import Derived.Test.Qxb6605388aChecked
import GoSem.Claim
import GoSem.ClaimJoined
import GoSem.ClaimMapViews
import Derived.JoinedTies
import Derived.KernelRfl
namespace Go.Proofs.Qxb6605388a
/- THE CELL 'sum', in the pinned program and in every row, IS THE sha256 OF THE DUMP (.gsa) THAT Qxb6605388aProg.lean LOADS. Nothing in Lean hashes anything: it is a label: what it is worth is what the hold of that sum in a sandbox is worth. -/
noncomputable def Try.pinned : Pinned := { name := "qxb6605388a", sum := "76a7b9651f7b7c2011933c3da6fb9c1b202e0512b1cafe8de6a6f1ecd5b0a5c2", checked := Try.checked }
namespace Rows
def none {H : Type} : Left H := { results := [], args := [] }

/-- 'zzlaws_internal_resource_b1.FnMaskAllMatchesReachSweepModel': WHATEVER THE INPUT: true; the input reads as it did. -/
def fnMaskAllMatchesReachSweepModelSpec : ChangeSpec := { name := "fnMaskAllMatchesReachSweepModel", fn := fun _ => fun
  | [d1, d2] => { results := [.lit (.bool true)], args := [d1, d2] }
  | _ => none }
def fnMaskAllMatchesReachSweepModelRow : OpenClaim := { program := "qxb6605388a", sum := "76a7b9651f7b7c2011933c3da6fb9c1b202e0512b1cafe8de6a6f1ecd5b0a5c2", func := "example.com/unanimity/unanimity/zzlaws_internal_resource_b1.FnMaskAllMatchesReachSweepModel", spec := "fnMaskAllMatchesReachSweepModel", inPlace := ["internal/bytealg.IndexByteString", "internal/bytealg.IndexString", "internal/abi.NoEscape"], named := ["internal/bytealg.MaxLen"], apart := false }
def FnMaskAllMatchesReachSweepModelSaid : Prop := fnMaskAllMatchesReachSweepModelRow.holds Try.pinned (OpenSpec.ofChange fnMaskAllMatchesReachSweepModelSpec)

/-- ITS FALSE NEIGHBOUR: 'it returns false'. Refute it at one input. -/
def fnMaskAllMatchesReachSweepModelWrong : ChangeSpec := { name := "fnMaskAllMatchesReachSweepModel", fn := fun _ => fun
  | [d1, d2] => { results := [.lit (.bool false)], args := [d1, d2] }
  | _ => none }
def FnMaskAllMatchesReachSweepModelWrongFalsely : Prop := fnMaskAllMatchesReachSweepModelRow.holds Try.pinned (OpenSpec.ofChange fnMaskAllMatchesReachSweepModelWrong)

/-- 'zzlaws_internal_resource_b1.FnMaskAllOrderFreeAndMasksWholeText': WHATEVER THE INPUT: true; the input reads as it did. -/
def fnMaskAllOrderFreeAndMasksWholeTextSpec : ChangeSpec := { name := "fnMaskAllOrderFreeAndMasksWholeText", fn := fun _ => fun
  | [d1, d2] => { results := [.lit (.bool true)], args := [d1, d2] }
  | _ => none }
def fnMaskAllOrderFreeAndMasksWholeTextRow : OpenClaim := { program := "qxb6605388a", sum := "76a7b9651f7b7c2011933c3da6fb9c1b202e0512b1cafe8de6a6f1ecd5b0a5c2", func := "example.com/unanimity/unanimity/zzlaws_internal_resource_b1.FnMaskAllOrderFreeAndMasksWholeText", spec := "fnMaskAllOrderFreeAndMasksWholeText", inPlace := ["internal/bytealg.IndexByteString", "internal/bytealg.IndexString", "internal/abi.NoEscape"], named := ["internal/bytealg.MaxLen"], apart := false }
def FnMaskAllOrderFreeAndMasksWholeTextSaid : Prop := fnMaskAllOrderFreeAndMasksWholeTextRow.holds Try.pinned (OpenSpec.ofChange fnMaskAllOrderFreeAndMasksWholeTextSpec)

/-- ITS FALSE NEIGHBOUR: 'it returns false'. Refute it at one input. -/
def fnMaskAllOrderFreeAndMasksWholeTextWrong : ChangeSpec := { name := "fnMaskAllOrderFreeAndMasksWholeText", fn := fun _ => fun
  | [d1, d2] => { results := [.lit (.bool false)], args := [d1, d2] }
  | _ => none }
def FnMaskAllOrderFreeAndMasksWholeTextWrongFalsely : Prop := fnMaskAllOrderFreeAndMasksWholeTextRow.holds Try.pinned (OpenSpec.ofChange fnMaskAllOrderFreeAndMasksWholeTextWrong)

/-- 'zzlaws_internal_resource_b1.FnHostAndPathBoundsFixedByTheirEdges': WHATEVER THE INPUT: true; the input reads as it did. -/
def fnHostAndPathBoundsFixedByTheirEdgesSpec : ChangeSpec := { name := "fnHostAndPathBoundsFixedByTheirEdges", fn := fun _ => fun
  | [d] => { results := [.lit (.bool true)], args := [d] }
  | _ => none }
def fnHostAndPathBoundsFixedByTheirEdgesRow : OpenClaim := { program := "qxb6605388a", sum := "76a7b9651f7b7c2011933c3da6fb9c1b202e0512b1cafe8de6a6f1ecd5b0a5c2", func := "example.com/unanimity/unanimity/zzlaws_internal_resource_b1.FnHostAndPathBoundsFixedByTheirEdges", spec := "fnHostAndPathBoundsFixedByTheirEdges", inPlace := ["internal/bytealg.IndexByteString", "internal/bytealg.IndexString"], named := ["internal/bytealg.MaxLen"], apart := false }
def FnHostAndPathBoundsFixedByTheirEdgesSaid : Prop := fnHostAndPathBoundsFixedByTheirEdgesRow.holds Try.pinned (OpenSpec.ofChange fnHostAndPathBoundsFixedByTheirEdgesSpec)

/-- ITS FALSE NEIGHBOUR: 'it returns false'. Refute it at one input. -/
def fnHostAndPathBoundsFixedByTheirEdgesWrong : ChangeSpec := { name := "fnHostAndPathBoundsFixedByTheirEdges", fn := fun _ => fun
  | [d] => { results := [.lit (.bool false)], args := [d] }
  | _ => none }
def FnHostAndPathBoundsFixedByTheirEdgesWrongFalsely : Prop := fnHostAndPathBoundsFixedByTheirEdgesRow.holds Try.pinned (OpenSpec.ofChange fnHostAndPathBoundsFixedByTheirEdgesWrong)

end Rows
end Go.Proofs.Qxb6605388a
