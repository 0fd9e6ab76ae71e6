/-
  No cell of these rows narrows 'for every input' (looked for: loops, veiled, ifaces, maps, wideKeys, modest, calm, conditions, laid).
  DERIVED. THE GIVEN ROWS OF THIS SEAT. 6 by the template 'for every input the law returns true; each argument reads behind the call as it read before'; 0 by the template 'total and deterministic' (their statements: Qxb6605511aTotals.lean).
  GIVEN WITH THE SEED: the statements are not yours to turn. If you find one false, say at which input.
  Laid BY PROGRAM, IN A SANDBOX (cutbox-rows.mjs): the forced cells as the released guide's own fill.sh prints them over the translation db28273030a1cb8f… (all of the seat's roots in one cut). By AI agents, Wed Nov 11 2026. No macro, syntax, notation, axiom, sorry.
-/
import Derived.Test.Qxb6605511aChecked
import GoSem.Claim
import GoSem.ClaimJoined
import GoSem.ClaimMapViews
import Derived.JoinedTies
import Derived.KernelRfl
namespace Go.Proofs.Qxb6605511a
/- THE CELL 'sum', in the pinned program and in every row, IS THE sha256 OF THE DUMP (.gsa) THAT Qxb6605511aProg.lean LOADS. Nothing in Lean hashes anything: it is a label: what it is worth is what the hold of that sum in a sandbox is worth. -/
noncomputable def Try.pinned : Pinned := { name := "qxb6605511a", sum := "db28273030a1cb8fc2d9997bdd23edf34014e7b40faed85da7f048a5f54b35ff", checked := Try.checked }
namespace Rows
def none {H : Type} : Left H := { results := [], args := [] }

/-- 'zzlaws_internal_registry_b1.FnLowerASCIIMatchesTable': WHATEVER THE INPUT: true; the input reads as it did. -/
def fnLowerASCIIMatchesTableSpec : ChangeSpec := { name := "fnLowerASCIIMatchesTable", fn := fun _ => fun
  | [d] => { results := [.lit (.bool true)], args := [d] }
  | _ => none }
def fnLowerASCIIMatchesTableRow : OpenClaim := { program := "qxb6605511a", sum := "db28273030a1cb8fc2d9997bdd23edf34014e7b40faed85da7f048a5f54b35ff", func := "example.com/tenure/tenure/zzlaws_internal_registry_b1.FnLowerASCIIMatchesTable", spec := "fnLowerASCIIMatchesTable", apart := false }
def FnLowerASCIIMatchesTableSaid : Prop := fnLowerASCIIMatchesTableRow.holds Try.pinned (OpenSpec.ofChange fnLowerASCIIMatchesTableSpec)

/-- ITS FALSE NEIGHBOUR: 'it returns false'. Refute it at one input. -/
def fnLowerASCIIMatchesTableWrong : ChangeSpec := { name := "fnLowerASCIIMatchesTable", fn := fun _ => fun
  | [d] => { results := [.lit (.bool false)], args := [d] }
  | _ => none }
def FnLowerASCIIMatchesTableWrongFalsely : Prop := fnLowerASCIIMatchesTableRow.holds Try.pinned (OpenSpec.ofChange fnLowerASCIIMatchesTableWrong)

/-- 'zzlaws_internal_registry_b1.FnLowerASCIIFoldsCase': WHATEVER THE INPUT: true; the input reads as it did. -/
def fnLowerASCIIFoldsCaseSpec : ChangeSpec := { name := "fnLowerASCIIFoldsCase", fn := fun _ => fun
  | [d] => { results := [.lit (.bool true)], args := [d] }
  | _ => none }
def fnLowerASCIIFoldsCaseRow : OpenClaim := { program := "qxb6605511a", sum := "db28273030a1cb8fc2d9997bdd23edf34014e7b40faed85da7f048a5f54b35ff", func := "example.com/tenure/tenure/zzlaws_internal_registry_b1.FnLowerASCIIFoldsCase", spec := "fnLowerASCIIFoldsCase", apart := false }
def FnLowerASCIIFoldsCaseSaid : Prop := fnLowerASCIIFoldsCaseRow.holds Try.pinned (OpenSpec.ofChange fnLowerASCIIFoldsCaseSpec)

/-- ITS FALSE NEIGHBOUR: 'it returns false'. Refute it at one input. -/
def fnLowerASCIIFoldsCaseWrong : ChangeSpec := { name := "fnLowerASCIIFoldsCase", fn := fun _ => fun
  | [d] => { results := [.lit (.bool false)], args := [d] }
  | _ => none }
def FnLowerASCIIFoldsCaseWrongFalsely : Prop := fnLowerASCIIFoldsCaseRow.holds Try.pinned (OpenSpec.ofChange fnLowerASCIIFoldsCaseWrong)

/-- 'zzlaws_internal_registry_b1.FnPunyAdaptMatchesRFCClosedForm': WHATEVER THE INPUT: true; the input reads as it did. -/
def fnPunyAdaptMatchesRFCClosedFormSpec : ChangeSpec := { name := "fnPunyAdaptMatchesRFCClosedForm", fn := fun _ => fun
  | [d1, d2, d3] => { results := [.lit (.bool true)], args := [d1, d2, d3] }
  | _ => none }
def fnPunyAdaptMatchesRFCClosedFormRow : OpenClaim := { program := "qxb6605511a", sum := "db28273030a1cb8fc2d9997bdd23edf34014e7b40faed85da7f048a5f54b35ff", func := "example.com/tenure/tenure/zzlaws_internal_registry_b1.FnPunyAdaptMatchesRFCClosedForm", spec := "fnPunyAdaptMatchesRFCClosedForm", apart := false }
def FnPunyAdaptMatchesRFCClosedFormSaid : Prop := fnPunyAdaptMatchesRFCClosedFormRow.holds Try.pinned (OpenSpec.ofChange fnPunyAdaptMatchesRFCClosedFormSpec)

/-- ITS FALSE NEIGHBOUR: 'it returns false'. Refute it at one input. -/
def fnPunyAdaptMatchesRFCClosedFormWrong : ChangeSpec := { name := "fnPunyAdaptMatchesRFCClosedForm", fn := fun _ => fun
  | [d1, d2, d3] => { results := [.lit (.bool false)], args := [d1, d2, d3] }
  | _ => none }
def FnPunyAdaptMatchesRFCClosedFormWrongFalsely : Prop := fnPunyAdaptMatchesRFCClosedFormRow.holds Try.pinned (OpenSpec.ofChange fnPunyAdaptMatchesRFCClosedFormWrong)

/-- 'zzlaws_internal_registry_b1.FnPunyAdaptMonotoneAndThreshold': WHATEVER THE INPUT: true; the input reads as it did. -/
def fnPunyAdaptMonotoneAndThresholdSpec : ChangeSpec := { name := "fnPunyAdaptMonotoneAndThreshold", fn := fun _ => fun
  | [d1, d2, d3] => { results := [.lit (.bool true)], args := [d1, d2, d3] }
  | _ => none }
def fnPunyAdaptMonotoneAndThresholdRow : OpenClaim := { program := "qxb6605511a", sum := "db28273030a1cb8fc2d9997bdd23edf34014e7b40faed85da7f048a5f54b35ff", func := "example.com/tenure/tenure/zzlaws_internal_registry_b1.FnPunyAdaptMonotoneAndThreshold", spec := "fnPunyAdaptMonotoneAndThreshold", apart := false }
def FnPunyAdaptMonotoneAndThresholdSaid : Prop := fnPunyAdaptMonotoneAndThresholdRow.holds Try.pinned (OpenSpec.ofChange fnPunyAdaptMonotoneAndThresholdSpec)

/-- ITS FALSE NEIGHBOUR: 'it returns false'. Refute it at one input. -/
def fnPunyAdaptMonotoneAndThresholdWrong : ChangeSpec := { name := "fnPunyAdaptMonotoneAndThreshold", fn := fun _ => fun
  | [d1, d2, d3] => { results := [.lit (.bool false)], args := [d1, d2, d3] }
  | _ => none }
def FnPunyAdaptMonotoneAndThresholdWrongFalsely : Prop := fnPunyAdaptMonotoneAndThresholdRow.holds Try.pinned (OpenSpec.ofChange fnPunyAdaptMonotoneAndThresholdWrong)

/-- 'zzlaws_internal_registry_b1.FnNonASCIIElementFirstInOrder': WHATEVER THE INPUT: true; the input reads as it did. -/
def fnNonASCIIElementFirstInOrderSpec : ChangeSpec := { name := "fnNonASCIIElementFirstInOrder", fn := fun _ => fun
  | [d1, d2, d3, d4, d5, d6, d7] => { results := [.lit (.bool true)], args := [d1, d2, d3, d4, d5, d6, d7] }
  | _ => none }
def fnNonASCIIElementFirstInOrderRow : OpenClaim := { program := "qxb6605511a", sum := "db28273030a1cb8fc2d9997bdd23edf34014e7b40faed85da7f048a5f54b35ff", func := "example.com/tenure/tenure/zzlaws_internal_registry_b1.FnNonASCIIElementFirstInOrder", spec := "fnNonASCIIElementFirstInOrder", apart := false }
def FnNonASCIIElementFirstInOrderSaid : Prop := fnNonASCIIElementFirstInOrderRow.holds Try.pinned (OpenSpec.ofChange fnNonASCIIElementFirstInOrderSpec)

/-- ITS FALSE NEIGHBOUR: 'it returns false'. Refute it at one input. -/
def fnNonASCIIElementFirstInOrderWrong : ChangeSpec := { name := "fnNonASCIIElementFirstInOrder", fn := fun _ => fun
  | [d1, d2, d3, d4, d5, d6, d7] => { results := [.lit (.bool false)], args := [d1, d2, d3, d4, d5, d6, d7] }
  | _ => none }
def FnNonASCIIElementFirstInOrderWrongFalsely : Prop := fnNonASCIIElementFirstInOrderRow.holds Try.pinned (OpenSpec.ofChange fnNonASCIIElementFirstInOrderWrong)

/-- 'zzlaws_internal_registry_b1.FnNonASCIIElementIgnoresASCIICase': WHATEVER THE INPUT: true; the input reads as it did. -/
def fnNonASCIIElementIgnoresASCIICaseSpec : ChangeSpec := { name := "fnNonASCIIElementIgnoresASCIICase", fn := fun _ => fun
  | [d1, d2, d3, d4, d5, d6, d7] => { results := [.lit (.bool true)], args := [d1, d2, d3, d4, d5, d6, d7] }
  | _ => none }
def fnNonASCIIElementIgnoresASCIICaseRow : OpenClaim := { program := "qxb6605511a", sum := "db28273030a1cb8fc2d9997bdd23edf34014e7b40faed85da7f048a5f54b35ff", func := "example.com/tenure/tenure/zzlaws_internal_registry_b1.FnNonASCIIElementIgnoresASCIICase", spec := "fnNonASCIIElementIgnoresASCIICase", apart := false }
def FnNonASCIIElementIgnoresASCIICaseSaid : Prop := fnNonASCIIElementIgnoresASCIICaseRow.holds Try.pinned (OpenSpec.ofChange fnNonASCIIElementIgnoresASCIICaseSpec)

/-- ITS FALSE NEIGHBOUR: 'it returns false'. Refute it at one input. -/
def fnNonASCIIElementIgnoresASCIICaseWrong : ChangeSpec := { name := "fnNonASCIIElementIgnoresASCIICase", fn := fun _ => fun
  | [d1, d2, d3, d4, d5, d6, d7] => { results := [.lit (.bool false)], args := [d1, d2, d3, d4, d5, d6, d7] }
  | _ => none }
def FnNonASCIIElementIgnoresASCIICaseWrongFalsely : Prop := fnNonASCIIElementIgnoresASCIICaseRow.holds Try.pinned (OpenSpec.ofChange fnNonASCIIElementIgnoresASCIICaseWrong)

end Rows
end Go.Proofs.Qxb6605511a
