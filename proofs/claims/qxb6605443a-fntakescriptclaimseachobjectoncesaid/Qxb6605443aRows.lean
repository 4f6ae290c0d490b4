/-
  No cell of these rows narrows 'for every input' (looked for: loops, veiled, ifaces, maps, wideKeys, modest, calm, conditions, laid).
  DERIVED. THE GIVEN ROWS OF THIS SEAT. 1 by the template 'for every input the law returns true; each argument reads behind the call as it read before'; 0 by the template 'total and deterministic' (their statements: Qxb6605443aTotals.lean).
  GIVEN WITH THE SEED: the statements are not yours to turn. If you find one false, say at which input.
  Laid BY PROGRAM, IN A SANDBOX (cutbox-rows.mjs): the forced cells as the released guide's own fill.sh prints them over the translation b89354c9afbd67ab… (all of the seat's roots in one cut). By AI agents, Wed Nov 11 2026. No macro, syntax, notation, axiom, sorry.
-/
import Derived.Test.Qxb6605443aChecked
import GoSem.Claim
import GoSem.ClaimJoined
import GoSem.ClaimMapViews
import Derived.JoinedTies
import Derived.KernelRfl
namespace Go.Proofs.Qxb6605443a
/- THE CELL 'sum', in the pinned program and in every row, IS THE sha256 OF THE DUMP (.gsa) THAT Qxb6605443aProg.lean LOADS. Nothing in Lean hashes anything: it is a label: what it is worth is what the hold of that sum in a sandbox is worth. -/
noncomputable def Try.pinned : Pinned := { name := "qxb6605443a", sum := "b89354c9afbd67ab4d0c263ece17b8c975537d37654c259c8f47c3481dcfbc5f", checked := Try.checked }
namespace Rows
def none {H : Type} : Left H := { results := [], args := [] }

/-- 'zzlaws_engine_b1.FnTakeScriptClaimsEachObjectOnce': WHATEVER THE INPUT: true; the input reads as it did. -/
def fnTakeScriptClaimsEachObjectOnceSpec : ChangeSpec := { name := "fnTakeScriptClaimsEachObjectOnce", fn := fun _ => fun
  | [d1, d2, d3] => { results := [.lit (.bool true)], args := [d1, d2, d3] }
  | _ => none }
def fnTakeScriptClaimsEachObjectOnceRow : OpenClaim := { program := "qxb6605443a", sum := "b89354c9afbd67ab4d0c263ece17b8c975537d37654c259c8f47c3481dcfbc5f", func := "example.com/painter/painter/zzlaws_engine_b1.FnTakeScriptClaimsEachObjectOnce", spec := "fnTakeScriptClaimsEachObjectOnce", apart := false }
def FnTakeScriptClaimsEachObjectOnceSaid : Prop := fnTakeScriptClaimsEachObjectOnceRow.holds Try.pinned (OpenSpec.ofChange fnTakeScriptClaimsEachObjectOnceSpec)

/-- ITS FALSE NEIGHBOUR: 'it returns false'. Refute it at one input. -/
def fnTakeScriptClaimsEachObjectOnceWrong : ChangeSpec := { name := "fnTakeScriptClaimsEachObjectOnce", fn := fun _ => fun
  | [d1, d2, d3] => { results := [.lit (.bool false)], args := [d1, d2, d3] }
  | _ => none }
def FnTakeScriptClaimsEachObjectOnceWrongFalsely : Prop := fnTakeScriptClaimsEachObjectOnceRow.holds Try.pinned (OpenSpec.ofChange fnTakeScriptClaimsEachObjectOnceWrong)

end Rows
end Go.Proofs.Qxb6605443a
