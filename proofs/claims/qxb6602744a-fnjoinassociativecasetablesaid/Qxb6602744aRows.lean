/-
  No cell of these rows narrows 'for every input' (looked for: loops, veiled, ifaces, maps, wideKeys, modest, calm, conditions, laid).
  DERIVED. THE GIVEN ROWS OF THIS SEAT. 4 by the template 'for every input the law returns true; each argument reads behind the call as it read before'; 0 by the template 'total and deterministic' (their statements: Qxb6602744aTotals.lean).
  GIVEN WITH THE SEED: the statements are not yours to turn. If you find one false, say at which input.
  Laid BY PROGRAM, IN A SANDBOX (cutbox-rows.mjs): the forced cells as the released guide's own fill.sh prints them over the translation 0d47e92e6dd442cf… (all of the seat's roots in one cut). By AI agents, Wed Nov 11 2026. No macro, syntax, notation, axiom, sorry.
-/
import Derived.Test.Qxb6602744aChecked
import GoSem.Claim
import GoSem.ClaimJoined
import GoSem.ClaimMapViews
import Derived.JoinedTies
import Derived.KernelRfl
namespace Go.Proofs.Qxb6602744a
/- THE CELL 'sum', in the pinned program and in every row, IS THE sha256 OF THE DUMP (.gsa) THAT Qxb6602744aProg.lean LOADS. Nothing in Lean hashes anything: it is a label: what it is worth is what the hold of that sum in a sandbox is worth. -/
noncomputable def Try.pinned : Pinned := { name := "qxb6602744a", sum := "0d47e92e6dd442cf86f0f61ca136296b981dffdaaa4d0afe3215541bc28cc138", checked := Try.checked }
namespace Rows
def none {H : Type} : Left H := { results := [], args := [] }

/-- 'zzlaws_config_b1.FnJoinAssociativeCaseTable': WHATEVER THE INPUT: true; the input reads as it did. -/
def fnJoinAssociativeCaseTableSpec : ChangeSpec := { name := "fnJoinAssociativeCaseTable", fn := fun _ => fun
  | [d1, d2, d3] => { results := [.lit (.bool true)], args := [d1, d2, d3] }
  | _ => none }
def fnJoinAssociativeCaseTableRow : OpenClaim := { program := "qxb6602744a", sum := "0d47e92e6dd442cf86f0f61ca136296b981dffdaaa4d0afe3215541bc28cc138", func := "example.com/tollkeeper/tollkeeper/zzlaws_config_b1.FnJoinAssociativeCaseTable", spec := "fnJoinAssociativeCaseTable", apart := false }
def FnJoinAssociativeCaseTableSaid : Prop := fnJoinAssociativeCaseTableRow.holds Try.pinned (OpenSpec.ofChange fnJoinAssociativeCaseTableSpec)

/-- ITS FALSE NEIGHBOUR: 'it returns false'. Refute it at one input. -/
def fnJoinAssociativeCaseTableWrong : ChangeSpec := { name := "fnJoinAssociativeCaseTable", fn := fun _ => fun
  | [d1, d2, d3] => { results := [.lit (.bool false)], args := [d1, d2, d3] }
  | _ => none }
def FnJoinAssociativeCaseTableWrongFalsely : Prop := fnJoinAssociativeCaseTableRow.holds Try.pinned (OpenSpec.ofChange fnJoinAssociativeCaseTableWrong)

/-- 'zzlaws_config_b1.FnPositionScanModel': WHATEVER THE INPUT: true; the input reads as it did. -/
def fnPositionScanModelSpec : ChangeSpec := { name := "fnPositionScanModel", fn := fun _ => fun
  | [d1, d2] => { results := [.lit (.bool true)], args := [d1, d2] }
  | _ => none }
def fnPositionScanModelRow : OpenClaim := { program := "qxb6602744a", sum := "0d47e92e6dd442cf86f0f61ca136296b981dffdaaa4d0afe3215541bc28cc138", func := "example.com/tollkeeper/tollkeeper/zzlaws_config_b1.FnPositionScanModel", spec := "fnPositionScanModel", inPlace := ["internal/bytealg.Count", "internal/bytealg.IndexByte", "internal/bytealg.Index"], named := ["internal/bytealg.MaxLen"], apart := false }
def FnPositionScanModelSaid : Prop := fnPositionScanModelRow.holds Try.pinned (OpenSpec.ofChange fnPositionScanModelSpec)

/-- ITS FALSE NEIGHBOUR: 'it returns false'. Refute it at one input. -/
def fnPositionScanModelWrong : ChangeSpec := { name := "fnPositionScanModel", fn := fun _ => fun
  | [d1, d2] => { results := [.lit (.bool false)], args := [d1, d2] }
  | _ => none }
def FnPositionScanModelWrongFalsely : Prop := fnPositionScanModelRow.holds Try.pinned (OpenSpec.ofChange fnPositionScanModelWrong)

/-- 'zzlaws_config_b1.FnPositionMonotoneInOffset': WHATEVER THE INPUT: true; the input reads as it did. -/
def fnPositionMonotoneInOffsetSpec : ChangeSpec := { name := "fnPositionMonotoneInOffset", fn := fun _ => fun
  | [d1, d2, d3] => { results := [.lit (.bool true)], args := [d1, d2, d3] }
  | _ => none }
def fnPositionMonotoneInOffsetRow : OpenClaim := { program := "qxb6602744a", sum := "0d47e92e6dd442cf86f0f61ca136296b981dffdaaa4d0afe3215541bc28cc138", func := "example.com/tollkeeper/tollkeeper/zzlaws_config_b1.FnPositionMonotoneInOffset", spec := "fnPositionMonotoneInOffset", inPlace := ["internal/bytealg.Count", "internal/bytealg.IndexByte", "internal/bytealg.Index"], named := ["internal/bytealg.MaxLen"], apart := false }
def FnPositionMonotoneInOffsetSaid : Prop := fnPositionMonotoneInOffsetRow.holds Try.pinned (OpenSpec.ofChange fnPositionMonotoneInOffsetSpec)

/-- ITS FALSE NEIGHBOUR: 'it returns false'. Refute it at one input. -/
def fnPositionMonotoneInOffsetWrong : ChangeSpec := { name := "fnPositionMonotoneInOffset", fn := fun _ => fun
  | [d1, d2, d3] => { results := [.lit (.bool false)], args := [d1, d2, d3] }
  | _ => none }
def FnPositionMonotoneInOffsetWrongFalsely : Prop := fnPositionMonotoneInOffsetRow.holds Try.pinned (OpenSpec.ofChange fnPositionMonotoneInOffsetWrong)

/-- 'zzlaws_config_b1.FnPositionIgnoresBytesAfter': WHATEVER THE INPUT: true; the input reads as it did. -/
def fnPositionIgnoresBytesAfterSpec : ChangeSpec := { name := "fnPositionIgnoresBytesAfter", fn := fun _ => fun
  | [d1, d2, d3] => { results := [.lit (.bool true)], args := [d1, d2, d3] }
  | _ => none }
def fnPositionIgnoresBytesAfterRow : OpenClaim := { program := "qxb6602744a", sum := "0d47e92e6dd442cf86f0f61ca136296b981dffdaaa4d0afe3215541bc28cc138", func := "example.com/tollkeeper/tollkeeper/zzlaws_config_b1.FnPositionIgnoresBytesAfter", spec := "fnPositionIgnoresBytesAfter", inPlace := ["internal/bytealg.Count", "internal/bytealg.IndexByte", "internal/bytealg.Index"], named := ["internal/bytealg.MaxLen"], apart := false }
def FnPositionIgnoresBytesAfterSaid : Prop := fnPositionIgnoresBytesAfterRow.holds Try.pinned (OpenSpec.ofChange fnPositionIgnoresBytesAfterSpec)

/-- ITS FALSE NEIGHBOUR: 'it returns false'. Refute it at one input. -/
def fnPositionIgnoresBytesAfterWrong : ChangeSpec := { name := "fnPositionIgnoresBytesAfter", fn := fun _ => fun
  | [d1, d2, d3] => { results := [.lit (.bool false)], args := [d1, d2, d3] }
  | _ => none }
def FnPositionIgnoresBytesAfterWrongFalsely : Prop := fnPositionIgnoresBytesAfterRow.holds Try.pinned (OpenSpec.ofChange fnPositionIgnoresBytesAfterWrong)

end Rows
end Go.Proofs.Qxb6602744a
