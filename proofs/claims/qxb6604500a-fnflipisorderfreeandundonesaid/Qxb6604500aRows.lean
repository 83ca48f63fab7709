/-
  No cell of these rows narrows 'for every input' (looked for: loops, veiled, ifaces, maps, wideKeys, modest, calm, conditions, laid).
  DERIVED. THE GIVEN ROWS OF THIS SEAT. 5 by the template 'for every input the law returns true; each argument reads behind the call as it read before'; 0 by the template 'total and deterministic' (their statements: Qxb6604500aTotals.lean).
  GIVEN WITH THE SEED: the statements are not yours to turn. If you find one false, say at which input.
  Laid BY PROGRAM, IN A SANDBOX (cutbox-rows.mjs): the forced cells as the released guide's own fill.sh prints them over the translation 8e49b56b6619ec83… (all of the seat's roots in one cut). By AI agents, Wed Nov 11 2026. No macro, syntax, notation, axiom, sorry.
-/
import Derived.Test.Qxb6604500aChecked
import GoSem.Claim
import GoSem.ClaimJoined
import GoSem.ClaimMapViews
import Derived.JoinedTies
import Derived.KernelRfl
namespace Go.Proofs.Qxb6604500a
/- THE CELL 'sum', in the pinned program and in every row, IS THE sha256 OF THE DUMP (.gsa) THAT Qxb6604500aProg.lean LOADS. Nothing in Lean hashes anything: it is a label: what it is worth is what the hold of that sum in a sandbox is worth. -/
noncomputable def Try.pinned : Pinned := { name := "qxb6604500a", sum := "8e49b56b6619ec83c95564c9a2b5fd9f14964c2a108467187fae0460a2d3e2ae", checked := Try.checked }
namespace Rows
def none {H : Type} : Left H := { results := [], args := [] }

/-- 'zzlaws_internal_overlay_b1.FnHoldForCaseTable': WHATEVER THE INPUT: true; the input reads as it did. -/
def fnHoldForCaseTableSpec : ChangeSpec := { name := "fnHoldForCaseTable", fn := fun _ => fun
  | [d] => { results := [.lit (.bool true)], args := [d] }
  | _ => none }
def fnHoldForCaseTableRow : OpenClaim := { program := "qxb6604500a", sum := "8e49b56b6619ec83c95564c9a2b5fd9f14964c2a108467187fae0460a2d3e2ae", func := "example.com/overlace/overlace/zzlaws_internal_overlay_b1.FnHoldForCaseTable", spec := "fnHoldForCaseTable", apart := false }
def FnHoldForCaseTableSaid : Prop := fnHoldForCaseTableRow.holds Try.pinned (OpenSpec.ofChange fnHoldForCaseTableSpec)

/-- ITS FALSE NEIGHBOUR: 'it returns false'. Refute it at one input. -/
def fnHoldForCaseTableWrong : ChangeSpec := { name := "fnHoldForCaseTable", fn := fun _ => fun
  | [d] => { results := [.lit (.bool false)], args := [d] }
  | _ => none }
def FnHoldForCaseTableWrongFalsely : Prop := fnHoldForCaseTableRow.holds Try.pinned (OpenSpec.ofChange fnHoldForCaseTableWrong)

/-- 'zzlaws_internal_overlay_b1.FnHoldForScheduleReachesDeferFor': WHATEVER THE INPUT: true; the input reads as it did. -/
def fnHoldForScheduleReachesDeferForSpec : ChangeSpec := { name := "fnHoldForScheduleReachesDeferFor", fn := fun _ => fun
  | [d] => { results := [.lit (.bool true)], args := [d] }
  | _ => none }
def fnHoldForScheduleReachesDeferForRow : OpenClaim := { program := "qxb6604500a", sum := "8e49b56b6619ec83c95564c9a2b5fd9f14964c2a108467187fae0460a2d3e2ae", func := "example.com/overlace/overlace/zzlaws_internal_overlay_b1.FnHoldForScheduleReachesDeferFor", spec := "fnHoldForScheduleReachesDeferFor", apart := false }
def FnHoldForScheduleReachesDeferForSaid : Prop := fnHoldForScheduleReachesDeferForRow.holds Try.pinned (OpenSpec.ofChange fnHoldForScheduleReachesDeferForSpec)

/-- ITS FALSE NEIGHBOUR: 'it returns false'. Refute it at one input. -/
def fnHoldForScheduleReachesDeferForWrong : ChangeSpec := { name := "fnHoldForScheduleReachesDeferFor", fn := fun _ => fun
  | [d] => { results := [.lit (.bool false)], args := [d] }
  | _ => none }
def FnHoldForScheduleReachesDeferForWrongFalsely : Prop := fnHoldForScheduleReachesDeferForRow.holds Try.pinned (OpenSpec.ofChange fnHoldForScheduleReachesDeferForWrong)

/-- 'zzlaws_internal_overlay_b1.FnItemOrderDeleteTakesOutExactlyS': WHATEVER THE INPUT: true; the input reads as it did. -/
def fnItemOrderDeleteTakesOutExactlySSpec : ChangeSpec := { name := "fnItemOrderDeleteTakesOutExactlyS", fn := fun _ => fun
  | [d1, d2, d3] => { results := [.lit (.bool true)], args := [d1, d2, d3] }
  | _ => none }
def fnItemOrderDeleteTakesOutExactlySRow : OpenClaim := { program := "qxb6604500a", sum := "8e49b56b6619ec83c95564c9a2b5fd9f14964c2a108467187fae0460a2d3e2ae", func := "example.com/overlace/overlace/zzlaws_internal_overlay_b1.FnItemOrderDeleteTakesOutExactlyS", spec := "fnItemOrderDeleteTakesOutExactlyS", inPlace := ["internal/bytealg.abigen_runtime_cmpstring", "slices.overlaps[example.com/overlace/overlace/internal/overlay.spot]", "slices.overlaps[*example.com/overlace/overlace/internal/overlay.orderNode]"], unfollowed := true, recurses := true, apart := false }
def FnItemOrderDeleteTakesOutExactlySSaid : Prop := fnItemOrderDeleteTakesOutExactlySRow.holds Try.pinned (OpenSpec.ofChange fnItemOrderDeleteTakesOutExactlySSpec)

/-- ITS FALSE NEIGHBOUR: 'it returns false'. Refute it at one input. -/
def fnItemOrderDeleteTakesOutExactlySWrong : ChangeSpec := { name := "fnItemOrderDeleteTakesOutExactlyS", fn := fun _ => fun
  | [d1, d2, d3] => { results := [.lit (.bool false)], args := [d1, d2, d3] }
  | _ => none }
def FnItemOrderDeleteTakesOutExactlySWrongFalsely : Prop := fnItemOrderDeleteTakesOutExactlySRow.holds Try.pinned (OpenSpec.ofChange fnItemOrderDeleteTakesOutExactlySWrong)

/-- 'zzlaws_internal_overlay_b1.FnItemOrderDeleteAllKeepsTheTree': WHATEVER THE INPUT: true; the input reads as it did. -/
def fnItemOrderDeleteAllKeepsTheTreeSpec : ChangeSpec := { name := "fnItemOrderDeleteAllKeepsTheTree", fn := fun _ => fun
  | [d1, d2] => { results := [.lit (.bool true)], args := [d1, d2] }
  | _ => none }
def fnItemOrderDeleteAllKeepsTheTreeRow : OpenClaim := { program := "qxb6604500a", sum := "8e49b56b6619ec83c95564c9a2b5fd9f14964c2a108467187fae0460a2d3e2ae", func := "example.com/overlace/overlace/zzlaws_internal_overlay_b1.FnItemOrderDeleteAllKeepsTheTree", spec := "fnItemOrderDeleteAllKeepsTheTree", inPlace := ["internal/bytealg.abigen_runtime_cmpstring", "slices.overlaps[example.com/overlace/overlace/internal/overlay.spot]", "slices.overlaps[*example.com/overlace/overlace/internal/overlay.orderNode]"], unfollowed := true, recurses := true, apart := false }
def FnItemOrderDeleteAllKeepsTheTreeSaid : Prop := fnItemOrderDeleteAllKeepsTheTreeRow.holds Try.pinned (OpenSpec.ofChange fnItemOrderDeleteAllKeepsTheTreeSpec)

/-- ITS FALSE NEIGHBOUR: 'it returns false'. Refute it at one input. -/
def fnItemOrderDeleteAllKeepsTheTreeWrong : ChangeSpec := { name := "fnItemOrderDeleteAllKeepsTheTree", fn := fun _ => fun
  | [d1, d2] => { results := [.lit (.bool false)], args := [d1, d2] }
  | _ => none }
def FnItemOrderDeleteAllKeepsTheTreeWrongFalsely : Prop := fnItemOrderDeleteAllKeepsTheTreeRow.holds Try.pinned (OpenSpec.ofChange fnItemOrderDeleteAllKeepsTheTreeWrong)

/-- 'zzlaws_internal_overlay_b1.FnFlipIsOrderFreeAndUndone': WHATEVER THE INPUT: true; the input reads as it did. -/
def fnFlipIsOrderFreeAndUndoneSpec : ChangeSpec := { name := "fnFlipIsOrderFreeAndUndone", fn := fun _ => fun
  | [d1, d2, d3, d4] => { results := [.lit (.bool true)], args := [d1, d2, d3, d4] }
  | _ => none }
def fnFlipIsOrderFreeAndUndoneRow : OpenClaim := { program := "qxb6604500a", sum := "8e49b56b6619ec83c95564c9a2b5fd9f14964c2a108467187fae0460a2d3e2ae", func := "example.com/overlace/overlace/zzlaws_internal_overlay_b1.FnFlipIsOrderFreeAndUndone", spec := "fnFlipIsOrderFreeAndUndone", unfollowed := true, recurses := true, named := ["encoding/binary.BigEndian"], apart := false }
def FnFlipIsOrderFreeAndUndoneSaid : Prop := fnFlipIsOrderFreeAndUndoneRow.holds Try.pinned (OpenSpec.ofChange fnFlipIsOrderFreeAndUndoneSpec)

/-- ITS FALSE NEIGHBOUR: 'it returns false'. Refute it at one input. -/
def fnFlipIsOrderFreeAndUndoneWrong : ChangeSpec := { name := "fnFlipIsOrderFreeAndUndone", fn := fun _ => fun
  | [d1, d2, d3, d4] => { results := [.lit (.bool false)], args := [d1, d2, d3, d4] }
  | _ => none }
def FnFlipIsOrderFreeAndUndoneWrongFalsely : Prop := fnFlipIsOrderFreeAndUndoneRow.holds Try.pinned (OpenSpec.ofChange fnFlipIsOrderFreeAndUndoneWrong)

end Rows
end Go.Proofs.Qxb6604500a
