/-
  No cell of these rows narrows 'for every input' (looked for: loops, veiled, ifaces, maps, wideKeys, modest, calm, conditions, laid).
  DERIVED. THE GIVEN ROWS OF THIS SEAT. 4 by the template 'for every input the law returns true; each argument reads behind the call as it read before'; 0 by the template 'total and deterministic' (their statements: Qxb6600559aTotals.lean).
  GIVEN WITH THE SEED: the statements are not yours to turn. If you find one false, say at which input.
  Laid BY PROGRAM, IN A SANDBOX (cutbox-rows.mjs): the forced cells as the released guide's own fill.sh prints them over the translation 916335d64982e97b… (all of the seat's roots in one cut). By AI agents, Wed Nov 11 2026. No macro, syntax, notation, axiom, sorry.
-/
import Derived.Test.Qxb6600559aChecked
import GoSem.Claim
import GoSem.ClaimJoined
import GoSem.ClaimMapViews
import Derived.JoinedTies
import Derived.KernelRfl
namespace Go.Proofs.Qxb6600559a
/- THE CELL 'sum', in the pinned program and in every row, IS THE sha256 OF THE DUMP (.gsa) THAT Qxb6600559aProg.lean LOADS. Nothing in Lean hashes anything: it is a label: what it is worth is what the hold of that sum in a sandbox is worth. -/
noncomputable def Try.pinned : Pinned := { name := "qxb6600559a", sum := "916335d64982e97b9654901a31328ad426243e637670b94ca32508fc97bb360b", checked := Try.checked }
namespace Rows
def none {H : Type} : Left H := { results := [], args := [] }

/-- 'zzlaws_polygon_b1.FnCoverageAddMatchesRecount': WHATEVER THE INPUT: true; the input reads as it did. -/
def fnCoverageAddMatchesRecountSpec : ChangeSpec := { name := "fnCoverageAddMatchesRecount", fn := fun _ => fun
  | [d1, d2, d3, d4, d5, d6, d7] => { results := [.lit (.bool true)], args := [d1, d2, d3, d4, d5, d6, d7] }
  | _ => none }
def fnCoverageAddMatchesRecountRow : OpenClaim := { program := "qxb6600559a", sum := "916335d64982e97b9654901a31328ad426243e637670b94ca32508fc97bb360b", func := "example.com/tilegrain/tilegrain/zzlaws_polygon_b1.FnCoverageAddMatchesRecount", spec := "fnCoverageAddMatchesRecount", apart := false }
def FnCoverageAddMatchesRecountSaid : Prop := fnCoverageAddMatchesRecountRow.holds Try.pinned (OpenSpec.ofChange fnCoverageAddMatchesRecountSpec)

/-- ITS FALSE NEIGHBOUR: 'it returns false'. Refute it at one input. -/
def fnCoverageAddMatchesRecountWrong : ChangeSpec := { name := "fnCoverageAddMatchesRecount", fn := fun _ => fun
  | [d1, d2, d3, d4, d5, d6, d7] => { results := [.lit (.bool false)], args := [d1, d2, d3, d4, d5, d6, d7] }
  | _ => none }
def FnCoverageAddMatchesRecountWrongFalsely : Prop := fnCoverageAddMatchesRecountRow.holds Try.pinned (OpenSpec.ofChange fnCoverageAddMatchesRecountWrong)

/-- 'zzlaws_polygon_b1.FnCoverageAddThenSubtractRestores': WHATEVER THE INPUT: true; the input reads as it did. -/
def fnCoverageAddThenSubtractRestoresSpec : ChangeSpec := { name := "fnCoverageAddThenSubtractRestores", fn := fun _ => fun
  | [d1, d2, d3, d4, d5, d6, d7, d8, d9] => { results := [.lit (.bool true)], args := [d1, d2, d3, d4, d5, d6, d7, d8, d9] }
  | _ => none }
def fnCoverageAddThenSubtractRestoresRow : OpenClaim := { program := "qxb6600559a", sum := "916335d64982e97b9654901a31328ad426243e637670b94ca32508fc97bb360b", func := "example.com/tilegrain/tilegrain/zzlaws_polygon_b1.FnCoverageAddThenSubtractRestores", spec := "fnCoverageAddThenSubtractRestores", apart := false }
def FnCoverageAddThenSubtractRestoresSaid : Prop := fnCoverageAddThenSubtractRestoresRow.holds Try.pinned (OpenSpec.ofChange fnCoverageAddThenSubtractRestoresSpec)

/-- ITS FALSE NEIGHBOUR: 'it returns false'. Refute it at one input. -/
def fnCoverageAddThenSubtractRestoresWrong : ChangeSpec := { name := "fnCoverageAddThenSubtractRestores", fn := fun _ => fun
  | [d1, d2, d3, d4, d5, d6, d7, d8, d9] => { results := [.lit (.bool false)], args := [d1, d2, d3, d4, d5, d6, d7, d8, d9] }
  | _ => none }
def FnCoverageAddThenSubtractRestoresWrongFalsely : Prop := fnCoverageAddThenSubtractRestoresRow.holds Try.pinned (OpenSpec.ofChange fnCoverageAddThenSubtractRestoresWrong)

/-- 'zzlaws_polygon_b1.FnInsertBeforeBuildsTheListInOrder': WHATEVER THE INPUT: true; the input reads as it did. -/
def fnInsertBeforeBuildsTheListInOrderSpec : ChangeSpec := { name := "fnInsertBeforeBuildsTheListInOrder", fn := fun _ => fun
  | [d1, d2] => { results := [.lit (.bool true)], args := [d1, d2] }
  | _ => none }
def fnInsertBeforeBuildsTheListInOrderRow : OpenClaim := { program := "qxb6600559a", sum := "916335d64982e97b9654901a31328ad426243e637670b94ca32508fc97bb360b", func := "example.com/tilegrain/tilegrain/zzlaws_polygon_b1.FnInsertBeforeBuildsTheListInOrder", spec := "fnInsertBeforeBuildsTheListInOrder", apart := false }
def FnInsertBeforeBuildsTheListInOrderSaid : Prop := fnInsertBeforeBuildsTheListInOrderRow.holds Try.pinned (OpenSpec.ofChange fnInsertBeforeBuildsTheListInOrderSpec)

/-- ITS FALSE NEIGHBOUR: 'it returns false'. Refute it at one input. -/
def fnInsertBeforeBuildsTheListInOrderWrong : ChangeSpec := { name := "fnInsertBeforeBuildsTheListInOrder", fn := fun _ => fun
  | [d1, d2] => { results := [.lit (.bool false)], args := [d1, d2] }
  | _ => none }
def FnInsertBeforeBuildsTheListInOrderWrongFalsely : Prop := fnInsertBeforeBuildsTheListInOrderRow.holds Try.pinned (OpenSpec.ofChange fnInsertBeforeBuildsTheListInOrderWrong)

/-- 'zzlaws_polygon_b1.FnInsertBeforeKeepsTreapLinksAndHeap': WHATEVER THE INPUT: true; the input reads as it did. -/
def fnInsertBeforeKeepsTreapLinksAndHeapSpec : ChangeSpec := { name := "fnInsertBeforeKeepsTreapLinksAndHeap", fn := fun _ => fun
  | [d1, d2] => { results := [.lit (.bool true)], args := [d1, d2] }
  | _ => none }
def fnInsertBeforeKeepsTreapLinksAndHeapRow : OpenClaim := { program := "qxb6600559a", sum := "916335d64982e97b9654901a31328ad426243e637670b94ca32508fc97bb360b", func := "example.com/tilegrain/tilegrain/zzlaws_polygon_b1.FnInsertBeforeKeepsTreapLinksAndHeap", spec := "fnInsertBeforeKeepsTreapLinksAndHeap", apart := false }
def FnInsertBeforeKeepsTreapLinksAndHeapSaid : Prop := fnInsertBeforeKeepsTreapLinksAndHeapRow.holds Try.pinned (OpenSpec.ofChange fnInsertBeforeKeepsTreapLinksAndHeapSpec)

/-- ITS FALSE NEIGHBOUR: 'it returns false'. Refute it at one input. -/
def fnInsertBeforeKeepsTreapLinksAndHeapWrong : ChangeSpec := { name := "fnInsertBeforeKeepsTreapLinksAndHeap", fn := fun _ => fun
  | [d1, d2] => { results := [.lit (.bool false)], args := [d1, d2] }
  | _ => none }
def FnInsertBeforeKeepsTreapLinksAndHeapWrongFalsely : Prop := fnInsertBeforeKeepsTreapLinksAndHeapRow.holds Try.pinned (OpenSpec.ofChange fnInsertBeforeKeepsTreapLinksAndHeapWrong)

end Rows
end Go.Proofs.Qxb6600559a
