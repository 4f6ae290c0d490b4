/-
  No cell of these rows narrows 'for every input' (looked for: loops, veiled, ifaces, maps, wideKeys, modest, calm, conditions, laid).
  DERIVED. THE GIVEN ROWS OF THIS SEAT. 4 by the template 'for every input the law returns true; each argument reads behind the call as it read before'; 0 by the template 'total and deterministic' (their statements: Qxb6003694aTotals.lean).
  GIVEN WITH THE SEED: the statements are not yours to turn. If you find one false, say at which input.
  Laid BY PROGRAM, IN A SANDBOX (cutbox-rows.mjs): the forced cells as the released guide's own fill.sh prints them over the translation 0ed082dce6340908… (all of the seat's roots in one cut). By AI agents, Wed Nov 11 2026. No macro, syntax, notation, axiom, sorry.
-/
import Derived.Test.Qxb6003694aChecked
import GoSem.Claim
import GoSem.ClaimJoined
import GoSem.ClaimMapViews
import Derived.JoinedTies
import Derived.KernelRfl
namespace Go.Proofs.Qxb6003694a
/- THE CELL 'sum', in the pinned program and in every row, IS THE sha256 OF THE DUMP (.gsa) THAT Qxb6003694aProg.lean LOADS. Nothing in Lean hashes anything: it is a label: what it is worth is what the hold of that sum in a sandbox is worth. -/
noncomputable def Try.pinned : Pinned := { name := "qxb6003694a", sum := "0ed082dce63409082a60fd14a1aa36b4d1935d63f5b0d37b32a1d3354306ca2f", checked := Try.checked }
namespace Rows
def none {H : Type} : Left H := { results := [], args := [] }

/-- 'zzlaws_internal_frame_g1.FnPackedLenFoldMatchesLayout': WHATEVER THE INPUT: true; the input reads as it did. -/
def fnPackedLenFoldMatchesLayoutSpec : ChangeSpec := { name := "fnPackedLenFoldMatchesLayout", fn := fun _ => fun
  | [d1, d2] => { results := [.lit (.bool true)], args := [d1, d2] }
  | _ => none }
def fnPackedLenFoldMatchesLayoutRow : OpenClaim := { program := "qxb6003694a", sum := "0ed082dce63409082a60fd14a1aa36b4d1935d63f5b0d37b32a1d3354306ca2f", func := "example.com/ringcast/ringcast/zzlaws_internal_frame_g1.FnPackedLenFoldMatchesLayout", spec := "fnPackedLenFoldMatchesLayout", apart := false }
def FnPackedLenFoldMatchesLayoutSaid : Prop := fnPackedLenFoldMatchesLayoutRow.holds Try.pinned (OpenSpec.ofChange fnPackedLenFoldMatchesLayoutSpec)

/-- ITS FALSE NEIGHBOUR: 'it returns false'. Refute it at one input. -/
def fnPackedLenFoldMatchesLayoutWrong : ChangeSpec := { name := "fnPackedLenFoldMatchesLayout", fn := fun _ => fun
  | [d1, d2] => { results := [.lit (.bool false)], args := [d1, d2] }
  | _ => none }
def FnPackedLenFoldMatchesLayoutWrongFalsely : Prop := fnPackedLenFoldMatchesLayoutRow.holds Try.pinned (OpenSpec.ofChange fnPackedLenFoldMatchesLayoutWrong)

/-- 'zzlaws_internal_frame_g1.FnMaxPackedSealCostAndFit': WHATEVER THE INPUT: true; the input reads as it did. -/
def fnMaxPackedSealCostAndFitSpec : ChangeSpec := { name := "fnMaxPackedSealCostAndFit", fn := fun _ => fun
  | [d1, d2, d3] => { results := [.lit (.bool true)], args := [d1, d2, d3] }
  | _ => none }
def fnMaxPackedSealCostAndFitRow : OpenClaim := { program := "qxb6003694a", sum := "0ed082dce63409082a60fd14a1aa36b4d1935d63f5b0d37b32a1d3354306ca2f", func := "example.com/ringcast/ringcast/zzlaws_internal_frame_g1.FnMaxPackedSealCostAndFit", spec := "fnMaxPackedSealCostAndFit", apart := false }
def FnMaxPackedSealCostAndFitSaid : Prop := fnMaxPackedSealCostAndFitRow.holds Try.pinned (OpenSpec.ofChange fnMaxPackedSealCostAndFitSpec)

/-- ITS FALSE NEIGHBOUR: 'it returns false'. Refute it at one input. -/
def fnMaxPackedSealCostAndFitWrong : ChangeSpec := { name := "fnMaxPackedSealCostAndFit", fn := fun _ => fun
  | [d1, d2, d3] => { results := [.lit (.bool false)], args := [d1, d2, d3] }
  | _ => none }
def FnMaxPackedSealCostAndFitWrongFalsely : Prop := fnMaxPackedSealCostAndFitRow.holds Try.pinned (OpenSpec.ofChange fnMaxPackedSealCostAndFitWrong)

/-- 'zzlaws_internal_ring_g1.FnVisitTakeKeepsItsBounds': WHATEVER THE INPUT: true; the input reads as it did. -/
def fnVisitTakeKeepsItsBoundsSpec : ChangeSpec := { name := "fnVisitTakeKeepsItsBounds", fn := fun _ => fun
  | [d1, d2, d3] => { results := [.lit (.bool true)], args := [d1, d2, d3] }
  | _ => none }
def fnVisitTakeKeepsItsBoundsRow : OpenClaim := { program := "qxb6003694a", sum := "0ed082dce63409082a60fd14a1aa36b4d1935d63f5b0d37b32a1d3354306ca2f", func := "example.com/ringcast/ringcast/zzlaws_internal_ring_g1.FnVisitTakeKeepsItsBounds", spec := "fnVisitTakeKeepsItsBounds", apart := false }
def FnVisitTakeKeepsItsBoundsSaid : Prop := fnVisitTakeKeepsItsBoundsRow.holds Try.pinned (OpenSpec.ofChange fnVisitTakeKeepsItsBoundsSpec)

/-- ITS FALSE NEIGHBOUR: 'it returns false'. Refute it at one input. -/
def fnVisitTakeKeepsItsBoundsWrong : ChangeSpec := { name := "fnVisitTakeKeepsItsBounds", fn := fun _ => fun
  | [d1, d2, d3] => { results := [.lit (.bool false)], args := [d1, d2, d3] }
  | _ => none }
def FnVisitTakeKeepsItsBoundsWrongFalsely : Prop := fnVisitTakeKeepsItsBoundsRow.holds Try.pinned (OpenSpec.ofChange fnVisitTakeKeepsItsBoundsWrong)

/-- 'zzlaws_internal_ring_g1.FnMissingIsExactlyTheAbsent': WHATEVER THE INPUT: true; the input reads as it did. -/
def fnMissingIsExactlyTheAbsentSpec : ChangeSpec := { name := "fnMissingIsExactlyTheAbsent", fn := fun _ => fun
  | [d1, d2, d3] => { results := [.lit (.bool true)], args := [d1, d2, d3] }
  | _ => none }
def fnMissingIsExactlyTheAbsentRow : OpenClaim := { program := "qxb6003694a", sum := "0ed082dce63409082a60fd14a1aa36b4d1935d63f5b0d37b32a1d3354306ca2f", func := "example.com/ringcast/ringcast/zzlaws_internal_ring_g1.FnMissingIsExactlyTheAbsent", spec := "fnMissingIsExactlyTheAbsent", apart := false }
def FnMissingIsExactlyTheAbsentSaid : Prop := fnMissingIsExactlyTheAbsentRow.holds Try.pinned (OpenSpec.ofChange fnMissingIsExactlyTheAbsentSpec)

/-- ITS FALSE NEIGHBOUR: 'it returns false'. Refute it at one input. -/
def fnMissingIsExactlyTheAbsentWrong : ChangeSpec := { name := "fnMissingIsExactlyTheAbsent", fn := fun _ => fun
  | [d1, d2, d3] => { results := [.lit (.bool false)], args := [d1, d2, d3] }
  | _ => none }
def FnMissingIsExactlyTheAbsentWrongFalsely : Prop := fnMissingIsExactlyTheAbsentRow.holds Try.pinned (OpenSpec.ofChange fnMissingIsExactlyTheAbsentWrong)

end Rows
end Go.Proofs.Qxb6003694a
