/-
  No cell of these rows narrows 'for every input' (looked for: loops, veiled, ifaces, maps, wideKeys, modest, calm, conditions, laid).
  DERIVED. THE GIVEN ROWS OF THIS SEAT. 4 by the template 'for every input the law returns true; each argument reads behind the call as it read before'; 0 by the template 'total and deterministic' (their statements: Qxb6604360aTotals.lean).
  GIVEN WITH THE SEED: the statements are not yours to turn. If you find one false, say at which input.
  Laid BY PROGRAM, IN A SANDBOX (cutbox-rows.mjs): the forced cells as the released guide's own fill.sh prints them over the translation 15d28a0035b54bba… (all of the seat's roots in one cut). By AI agents, Wed Nov 11 2026. No macro, syntax, notation, axiom, sorry.
-/
import Derived.Test.Qxb6604360aChecked
import GoSem.Claim
import GoSem.ClaimJoined
import GoSem.ClaimMapViews
import Derived.JoinedTies
import Derived.KernelRfl
namespace Go.Proofs.Qxb6604360a
/- THE CELL 'sum', in the pinned program and in every row, IS THE sha256 OF THE DUMP (.gsa) THAT Qxb6604360aProg.lean LOADS. Nothing in Lean hashes anything: it is a label: what it is worth is what the hold of that sum in a sandbox is worth. -/
noncomputable def Try.pinned : Pinned := { name := "qxb6604360a", sum := "15d28a0035b54bba560db4b10e48021e9803294e7df5cd688a7f912a1ef0443d", checked := Try.checked }
namespace Rows
def none {H : Type} : Left H := { results := [], args := [] }

/-- 'zzlaws_root_b1.FnTargetLandsOnAChangeThatIsItsOwnTarget': WHATEVER THE INPUT: true; the input reads as it did. -/
def fnTargetLandsOnAChangeThatIsItsOwnTargetSpec : ChangeSpec := { name := "fnTargetLandsOnAChangeThatIsItsOwnTarget", fn := fun _ => fun
  | [d1, d2, d3] => { results := [.lit (.bool true)], args := [d1, d2, d3] }
  | _ => none }
def fnTargetLandsOnAChangeThatIsItsOwnTargetRow : OpenClaim := { program := "qxb6604360a", sum := "15d28a0035b54bba560db4b10e48021e9803294e7df5cd688a7f912a1ef0443d", func := "example.com/palinode/palinode/zzlaws_root_b1.FnTargetLandsOnAChangeThatIsItsOwnTarget", spec := "fnTargetLandsOnAChangeThatIsItsOwnTarget", apart := false }
def FnTargetLandsOnAChangeThatIsItsOwnTargetSaid : Prop := fnTargetLandsOnAChangeThatIsItsOwnTargetRow.holds Try.pinned (OpenSpec.ofChange fnTargetLandsOnAChangeThatIsItsOwnTargetSpec)

/-- ITS FALSE NEIGHBOUR: 'it returns false'. Refute it at one input. -/
def fnTargetLandsOnAChangeThatIsItsOwnTargetWrong : ChangeSpec := { name := "fnTargetLandsOnAChangeThatIsItsOwnTarget", fn := fun _ => fun
  | [d1, d2, d3] => { results := [.lit (.bool false)], args := [d1, d2, d3] }
  | _ => none }
def FnTargetLandsOnAChangeThatIsItsOwnTargetWrongFalsely : Prop := fnTargetLandsOnAChangeThatIsItsOwnTargetRow.holds Try.pinned (OpenSpec.ofChange fnTargetLandsOnAChangeThatIsItsOwnTargetWrong)

/-- 'zzlaws_root_b1.FnTargetIsInheritedFromTheAnchor': WHATEVER THE INPUT: true; the input reads as it did. -/
def fnTargetIsInheritedFromTheAnchorSpec : ChangeSpec := { name := "fnTargetIsInheritedFromTheAnchor", fn := fun _ => fun
  | [d1, d2, d3, d4] => { results := [.lit (.bool true)], args := [d1, d2, d3, d4] }
  | _ => none }
def fnTargetIsInheritedFromTheAnchorRow : OpenClaim := { program := "qxb6604360a", sum := "15d28a0035b54bba560db4b10e48021e9803294e7df5cd688a7f912a1ef0443d", func := "example.com/palinode/palinode/zzlaws_root_b1.FnTargetIsInheritedFromTheAnchor", spec := "fnTargetIsInheritedFromTheAnchor", apart := false }
def FnTargetIsInheritedFromTheAnchorSaid : Prop := fnTargetIsInheritedFromTheAnchorRow.holds Try.pinned (OpenSpec.ofChange fnTargetIsInheritedFromTheAnchorSpec)

/-- ITS FALSE NEIGHBOUR: 'it returns false'. Refute it at one input. -/
def fnTargetIsInheritedFromTheAnchorWrong : ChangeSpec := { name := "fnTargetIsInheritedFromTheAnchor", fn := fun _ => fun
  | [d1, d2, d3, d4] => { results := [.lit (.bool false)], args := [d1, d2, d3, d4] }
  | _ => none }
def FnTargetIsInheritedFromTheAnchorWrongFalsely : Prop := fnTargetIsInheritedFromTheAnchorRow.holds Try.pinned (OpenSpec.ofChange fnTargetIsInheritedFromTheAnchorWrong)

/-- 'zzlaws_root_b1.FnClassOfFindsExactlyTheClassWithThatLatest': WHATEVER THE INPUT: true; the input reads as it did. -/
def fnClassOfFindsExactlyTheClassWithThatLatestSpec : ChangeSpec := { name := "fnClassOfFindsExactlyTheClassWithThatLatest", fn := fun _ => fun
  | [d1, d2, d3, d4, d5, d6, d7] => { results := [.lit (.bool true)], args := [d1, d2, d3, d4, d5, d6, d7] }
  | _ => none }
def fnClassOfFindsExactlyTheClassWithThatLatestRow : OpenClaim := { program := "qxb6604360a", sum := "15d28a0035b54bba560db4b10e48021e9803294e7df5cd688a7f912a1ef0443d", func := "example.com/palinode/palinode/zzlaws_root_b1.FnClassOfFindsExactlyTheClassWithThatLatest", spec := "fnClassOfFindsExactlyTheClassWithThatLatest", apart := false }
def FnClassOfFindsExactlyTheClassWithThatLatestSaid : Prop := fnClassOfFindsExactlyTheClassWithThatLatestRow.holds Try.pinned (OpenSpec.ofChange fnClassOfFindsExactlyTheClassWithThatLatestSpec)

/-- ITS FALSE NEIGHBOUR: 'it returns false'. Refute it at one input. -/
def fnClassOfFindsExactlyTheClassWithThatLatestWrong : ChangeSpec := { name := "fnClassOfFindsExactlyTheClassWithThatLatest", fn := fun _ => fun
  | [d1, d2, d3, d4, d5, d6, d7] => { results := [.lit (.bool false)], args := [d1, d2, d3, d4, d5, d6, d7] }
  | _ => none }
def FnClassOfFindsExactlyTheClassWithThatLatestWrongFalsely : Prop := fnClassOfFindsExactlyTheClassWithThatLatestRow.holds Try.pinned (OpenSpec.ofChange fnClassOfFindsExactlyTheClassWithThatLatestWrong)

/-- 'zzlaws_root_b1.FnClassOfFindsEveryClassByItsOwnLatest': WHATEVER THE INPUT: true; the input reads as it did. -/
def fnClassOfFindsEveryClassByItsOwnLatestSpec : ChangeSpec := { name := "fnClassOfFindsEveryClassByItsOwnLatest", fn := fun _ => fun
  | [d1, d2, d3, d4, d5, d6] => { results := [.lit (.bool true)], args := [d1, d2, d3, d4, d5, d6] }
  | _ => none }
def fnClassOfFindsEveryClassByItsOwnLatestRow : OpenClaim := { program := "qxb6604360a", sum := "15d28a0035b54bba560db4b10e48021e9803294e7df5cd688a7f912a1ef0443d", func := "example.com/palinode/palinode/zzlaws_root_b1.FnClassOfFindsEveryClassByItsOwnLatest", spec := "fnClassOfFindsEveryClassByItsOwnLatest", apart := false }
def FnClassOfFindsEveryClassByItsOwnLatestSaid : Prop := fnClassOfFindsEveryClassByItsOwnLatestRow.holds Try.pinned (OpenSpec.ofChange fnClassOfFindsEveryClassByItsOwnLatestSpec)

/-- ITS FALSE NEIGHBOUR: 'it returns false'. Refute it at one input. -/
def fnClassOfFindsEveryClassByItsOwnLatestWrong : ChangeSpec := { name := "fnClassOfFindsEveryClassByItsOwnLatest", fn := fun _ => fun
  | [d1, d2, d3, d4, d5, d6] => { results := [.lit (.bool false)], args := [d1, d2, d3, d4, d5, d6] }
  | _ => none }
def FnClassOfFindsEveryClassByItsOwnLatestWrongFalsely : Prop := fnClassOfFindsEveryClassByItsOwnLatestRow.holds Try.pinned (OpenSpec.ofChange fnClassOfFindsEveryClassByItsOwnLatestWrong)

end Rows
end Go.Proofs.Qxb6604360a
