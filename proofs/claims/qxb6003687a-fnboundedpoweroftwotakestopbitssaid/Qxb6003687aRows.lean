/-
  No cell of these rows narrows 'for every input' (looked for: loops, veiled, ifaces, maps, wideKeys, modest, calm, conditions, laid).
  DERIVED. THE GIVEN ROWS OF THIS SEAT. 4 by the template 'for every input the law returns true; each argument reads behind the call as it read before'; 0 by the template 'total and deterministic' (their statements: Qxb6003687aTotals.lean).
  GIVEN WITH THE SEED: the statements are not yours to turn. If you find one false, say at which input.
  Laid BY PROGRAM, IN A SANDBOX (cutbox-rows.mjs): the forced cells as the released guide's own fill.sh prints them over the translation d9a96a806342f217… (all of the seat's roots in one cut). By AI agents, Wed Nov 11 2026. No macro, syntax, notation, axiom, sorry.
-/
import Derived.Test.Qxb6003687aChecked
import GoSem.Claim
import GoSem.ClaimJoined
import GoSem.ClaimMapViews
import Derived.JoinedTies
import Derived.KernelRfl
namespace Go.Proofs.Qxb6003687a
/- THE CELL 'sum', in the pinned program and in every row, IS THE sha256 OF THE DUMP (.gsa) THAT Qxb6003687aProg.lean LOADS. Nothing in Lean hashes anything: it is a label: what it is worth is what the hold of that sum in a sandbox is worth. -/
noncomputable def Try.pinned : Pinned := { name := "qxb6003687a", sum := "d9a96a806342f2172b615a0cd28476caacbbfde1e9688aa674a9ab5125c7342b", checked := Try.checked }
namespace Rows
def none {H : Type} : Left H := { results := [], args := [] }

/-- 'zzlaws_tokens_g2.FnBoundedAcceptedDrawInRangeMonotoneSeedFree': WHATEVER THE INPUT: true; the input reads as it did. -/
def fnBoundedAcceptedDrawInRangeMonotoneSeedFreeSpec : ChangeSpec := { name := "fnBoundedAcceptedDrawInRangeMonotoneSeedFree", fn := fun _ => fun
  | [d1, d2, d3, d4, d5, d6, d7] => { results := [.lit (.bool true)], args := [d1, d2, d3, d4, d5, d6, d7] }
  | _ => none }
def fnBoundedAcceptedDrawInRangeMonotoneSeedFreeRow : OpenClaim := { program := "qxb6003687a", sum := "d9a96a806342f2172b615a0cd28476caacbbfde1e9688aa674a9ab5125c7342b", func := "example.com/churnweave/churnweave/zzlaws_tokens_g2.FnBoundedAcceptedDrawInRangeMonotoneSeedFree", spec := "fnBoundedAcceptedDrawInRangeMonotoneSeedFree", inPlace := ["math/bits.Add64"], apart := false }
def FnBoundedAcceptedDrawInRangeMonotoneSeedFreeSaid : Prop := fnBoundedAcceptedDrawInRangeMonotoneSeedFreeRow.holds Try.pinned (OpenSpec.ofChange fnBoundedAcceptedDrawInRangeMonotoneSeedFreeSpec)

/-- ITS FALSE NEIGHBOUR: 'it returns false'. Refute it at one input. -/
def fnBoundedAcceptedDrawInRangeMonotoneSeedFreeWrong : ChangeSpec := { name := "fnBoundedAcceptedDrawInRangeMonotoneSeedFree", fn := fun _ => fun
  | [d1, d2, d3, d4, d5, d6, d7] => { results := [.lit (.bool false)], args := [d1, d2, d3, d4, d5, d6, d7] }
  | _ => none }
def FnBoundedAcceptedDrawInRangeMonotoneSeedFreeWrongFalsely : Prop := fnBoundedAcceptedDrawInRangeMonotoneSeedFreeRow.holds Try.pinned (OpenSpec.ofChange fnBoundedAcceptedDrawInRangeMonotoneSeedFreeWrong)

/-- 'zzlaws_tokens_g2.FnBoundedPowerOfTwoTakesTopBits': WHATEVER THE INPUT: true; the input reads as it did. -/
def fnBoundedPowerOfTwoTakesTopBitsSpec : ChangeSpec := { name := "fnBoundedPowerOfTwoTakesTopBits", fn := fun _ => fun
  | [d1, d2, d3, d4] => { results := [.lit (.bool true)], args := [d1, d2, d3, d4] }
  | _ => none }
def fnBoundedPowerOfTwoTakesTopBitsRow : OpenClaim := { program := "qxb6003687a", sum := "d9a96a806342f2172b615a0cd28476caacbbfde1e9688aa674a9ab5125c7342b", func := "example.com/churnweave/churnweave/zzlaws_tokens_g2.FnBoundedPowerOfTwoTakesTopBits", spec := "fnBoundedPowerOfTwoTakesTopBits", inPlace := ["math/bits.Add64"], apart := false }
def FnBoundedPowerOfTwoTakesTopBitsSaid : Prop := fnBoundedPowerOfTwoTakesTopBitsRow.holds Try.pinned (OpenSpec.ofChange fnBoundedPowerOfTwoTakesTopBitsSpec)

/-- ITS FALSE NEIGHBOUR: 'it returns false'. Refute it at one input. -/
def fnBoundedPowerOfTwoTakesTopBitsWrong : ChangeSpec := { name := "fnBoundedPowerOfTwoTakesTopBits", fn := fun _ => fun
  | [d1, d2, d3, d4] => { results := [.lit (.bool false)], args := [d1, d2, d3, d4] }
  | _ => none }
def FnBoundedPowerOfTwoTakesTopBitsWrongFalsely : Prop := fnBoundedPowerOfTwoTakesTopBitsRow.holds Try.pinned (OpenSpec.ofChange fnBoundedPowerOfTwoTakesTopBitsWrong)

/-- 'zzlaws_tokens_g2.FnEntryPortsOneToOneElseLoop': WHATEVER THE INPUT: true; the input reads as it did. -/
def fnEntryPortsOneToOneElseLoopSpec : ChangeSpec := { name := "fnEntryPortsOneToOneElseLoop", fn := fun _ => fun
  | [d1, d2, d3, d4, d5, d6] => { results := [.lit (.bool true)], args := [d1, d2, d3, d4, d5, d6] }
  | _ => none }
def fnEntryPortsOneToOneElseLoopRow : OpenClaim := { program := "qxb6003687a", sum := "d9a96a806342f2172b615a0cd28476caacbbfde1e9688aa674a9ab5125c7342b", func := "example.com/churnweave/churnweave/zzlaws_tokens_g2.FnEntryPortsOneToOneElseLoop", spec := "fnEntryPortsOneToOneElseLoop", apart := false }
def FnEntryPortsOneToOneElseLoopSaid : Prop := fnEntryPortsOneToOneElseLoopRow.holds Try.pinned (OpenSpec.ofChange fnEntryPortsOneToOneElseLoopSpec)

/-- ITS FALSE NEIGHBOUR: 'it returns false'. Refute it at one input. -/
def fnEntryPortsOneToOneElseLoopWrong : ChangeSpec := { name := "fnEntryPortsOneToOneElseLoop", fn := fun _ => fun
  | [d1, d2, d3, d4, d5, d6] => { results := [.lit (.bool false)], args := [d1, d2, d3, d4, d5, d6] }
  | _ => none }
def FnEntryPortsOneToOneElseLoopWrongFalsely : Prop := fnEntryPortsOneToOneElseLoopRow.holds Try.pinned (OpenSpec.ofChange fnEntryPortsOneToOneElseLoopWrong)

/-- 'zzlaws_tokens_g2.FnTakeFreshDrainsExactlyFreshHighestFirst': WHATEVER THE INPUT: true; the input reads as it did. -/
def fnTakeFreshDrainsExactlyFreshHighestFirstSpec : ChangeSpec := { name := "fnTakeFreshDrainsExactlyFreshHighestFirst", fn := fun _ => fun
  | [d1, d2, d3] => { results := [.lit (.bool true)], args := [d1, d2, d3] }
  | _ => none }
def fnTakeFreshDrainsExactlyFreshHighestFirstRow : OpenClaim := { program := "qxb6003687a", sum := "d9a96a806342f2172b615a0cd28476caacbbfde1e9688aa674a9ab5125c7342b", func := "example.com/churnweave/churnweave/zzlaws_tokens_g2.FnTakeFreshDrainsExactlyFreshHighestFirst", spec := "fnTakeFreshDrainsExactlyFreshHighestFirst", apart := false }
def FnTakeFreshDrainsExactlyFreshHighestFirstSaid : Prop := fnTakeFreshDrainsExactlyFreshHighestFirstRow.holds Try.pinned (OpenSpec.ofChange fnTakeFreshDrainsExactlyFreshHighestFirstSpec)

/-- ITS FALSE NEIGHBOUR: 'it returns false'. Refute it at one input. -/
def fnTakeFreshDrainsExactlyFreshHighestFirstWrong : ChangeSpec := { name := "fnTakeFreshDrainsExactlyFreshHighestFirst", fn := fun _ => fun
  | [d1, d2, d3] => { results := [.lit (.bool false)], args := [d1, d2, d3] }
  | _ => none }
def FnTakeFreshDrainsExactlyFreshHighestFirstWrongFalsely : Prop := fnTakeFreshDrainsExactlyFreshHighestFirstRow.holds Try.pinned (OpenSpec.ofChange fnTakeFreshDrainsExactlyFreshHighestFirstWrong)

end Rows
end Go.Proofs.Qxb6003687a
