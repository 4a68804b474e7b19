/-
  No cell of these rows narrows 'for every input' (looked for: loops, veiled, ifaces, maps, wideKeys, modest, calm, conditions, laid).
  DERIVED. THE GIVEN ROWS OF THIS SEAT. 2 by the template 'for every input the law returns true; each argument reads behind the call as it read before'; 0 by the template 'total and deterministic' (their statements: Qxb6612944aTotals.lean).
  GIVEN WITH THE SEED: the statements are not yours to turn. If you find one false, say at which input.
  Laid BY PROGRAM, IN A SANDBOX (cutbox-rows.mjs): the forced cells as the released guide's own fill.sh prints them over the translation 0c716afe082cc270… (all of the seat's roots in one cut). By AI agents, Wed Nov 11 2026. No macro, syntax, notation, axiom, sorry.
-/
import Derived.Test.Qxb6612944aChecked
import GoSem.Claim
import GoSem.ClaimJoined
import GoSem.ClaimMapViews
import Derived.JoinedTies
import Derived.KernelRfl
namespace Go.Proofs.Qxb6612944a
/- THE CELL 'sum', in the pinned program and in every row, IS THE sha256 OF THE DUMP (.gsa) THAT Qxb6612944aProg.lean LOADS. Nothing in Lean hashes anything: it is a label: what it is worth is what the hold of that sum in a sandbox is worth. -/
noncomputable def Try.pinned : Pinned := { name := "qxb6612944a", sum := "0c716afe082cc270f9e55671bed4c86b1427db9da81c2ba60304d31080ffafb9", checked := Try.checked }
namespace Rows
def none {H : Type} : Left H := { results := [], args := [] }

/-- 'zzlaws_internal_crnp_b1.FnEnqueuePutsEventAheadOfFirstLaterOnce': WHATEVER THE INPUT: true; the input reads as it did. -/
def fnEnqueuePutsEventAheadOfFirstLaterOnceSpec : ChangeSpec := { name := "fnEnqueuePutsEventAheadOfFirstLaterOnce", fn := fun _ => fun
  | [d1, d2, d3, d4, d5] => { results := [.lit (.bool true)], args := [d1, d2, d3, d4, d5] }
  | _ => none }
def fnEnqueuePutsEventAheadOfFirstLaterOnceRow : OpenClaim := { program := "qxb6612944a", sum := "0c716afe082cc270f9e55671bed4c86b1427db9da81c2ba60304d31080ffafb9", func := "example.com/sysherald/sysherald/zzlaws_internal_crnp_b1.FnEnqueuePutsEventAheadOfFirstLaterOnce", spec := "fnEnqueuePutsEventAheadOfFirstLaterOnce", inPlace := ["slices.overlaps[example.com/sysherald/sysherald/internal/event.Event]"], unfollowed := true, recurses := true, apart := false }
def FnEnqueuePutsEventAheadOfFirstLaterOnceSaid : Prop := fnEnqueuePutsEventAheadOfFirstLaterOnceRow.holds Try.pinned (OpenSpec.ofChange fnEnqueuePutsEventAheadOfFirstLaterOnceSpec)

/-- ITS FALSE NEIGHBOUR: 'it returns false'. Refute it at one input. -/
def fnEnqueuePutsEventAheadOfFirstLaterOnceWrong : ChangeSpec := { name := "fnEnqueuePutsEventAheadOfFirstLaterOnce", fn := fun _ => fun
  | [d1, d2, d3, d4, d5] => { results := [.lit (.bool false)], args := [d1, d2, d3, d4, d5] }
  | _ => none }
def FnEnqueuePutsEventAheadOfFirstLaterOnceWrongFalsely : Prop := fnEnqueuePutsEventAheadOfFirstLaterOnceRow.holds Try.pinned (OpenSpec.ofChange fnEnqueuePutsEventAheadOfFirstLaterOnceWrong)

/-- 'zzlaws_internal_crnp_b1.FnEnqueueOrderFree': WHATEVER THE INPUT: true; the input reads as it did. -/
def fnEnqueueOrderFreeSpec : ChangeSpec := { name := "fnEnqueueOrderFree", fn := fun _ => fun
  | [d1, d2, d3, d4, d5, d6, d7] => { results := [.lit (.bool true)], args := [d1, d2, d3, d4, d5, d6, d7] }
  | _ => none }
def fnEnqueueOrderFreeRow : OpenClaim := { program := "qxb6612944a", sum := "0c716afe082cc270f9e55671bed4c86b1427db9da81c2ba60304d31080ffafb9", func := "example.com/sysherald/sysherald/zzlaws_internal_crnp_b1.FnEnqueueOrderFree", spec := "fnEnqueueOrderFree", inPlace := ["slices.overlaps[example.com/sysherald/sysherald/internal/event.Event]"], unfollowed := true, recurses := true, apart := false }
def FnEnqueueOrderFreeSaid : Prop := fnEnqueueOrderFreeRow.holds Try.pinned (OpenSpec.ofChange fnEnqueueOrderFreeSpec)

/-- ITS FALSE NEIGHBOUR: 'it returns false'. Refute it at one input. -/
def fnEnqueueOrderFreeWrong : ChangeSpec := { name := "fnEnqueueOrderFree", fn := fun _ => fun
  | [d1, d2, d3, d4, d5, d6, d7] => { results := [.lit (.bool false)], args := [d1, d2, d3, d4, d5, d6, d7] }
  | _ => none }
def FnEnqueueOrderFreeWrongFalsely : Prop := fnEnqueueOrderFreeRow.holds Try.pinned (OpenSpec.ofChange fnEnqueueOrderFreeWrong)

end Rows
end Go.Proofs.Qxb6612944a
