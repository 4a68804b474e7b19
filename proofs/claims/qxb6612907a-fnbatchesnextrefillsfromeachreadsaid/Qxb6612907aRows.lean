/-
  No cell of these rows narrows 'for every input' (looked for: loops, veiled, ifaces, maps, wideKeys, modest, calm, conditions, laid).
  DERIVED. THE GIVEN ROWS OF THIS SEAT. 3 by the template 'for every input the law returns true; each argument reads behind the call as it read before'; 0 by the template 'total and deterministic' (their statements: Qxb6612907aTotals.lean).
  GIVEN WITH THE SEED: the statements are not yours to turn. If you find one false, say at which input.
  Laid BY PROGRAM, IN A SANDBOX (cutbox-rows.mjs): the forced cells as the released guide's own fill.sh prints them over the translation a806db64b03e356f… (all of the seat's roots in one cut). By AI agents, Wed Nov 11 2026. No macro, syntax, notation, axiom, sorry.
-/
import Derived.Test.Qxb6612907aChecked
import GoSem.Claim
import GoSem.ClaimJoined
import GoSem.ClaimMapViews
import Derived.JoinedTies
import Derived.KernelRfl
namespace Go.Proofs.Qxb6612907a
/- THE CELL 'sum', in the pinned program and in every row, IS THE sha256 OF THE DUMP (.gsa) THAT Qxb6612907aProg.lean LOADS. Nothing in Lean hashes anything: it is a label: what it is worth is what the hold of that sum in a sandbox is worth. -/
noncomputable def Try.pinned : Pinned := { name := "qxb6612907a", sum := "a806db64b03e356fecfcc77de75fa5e607280a2f1314e8f366485f8789a84907", checked := Try.checked }
namespace Rows
def none {H : Type} : Left H := { results := [], args := [] }

/-- 'zzlaws_internal_disk_b1.FnBatchesNextYieldsEachPairThenEnds': WHATEVER THE INPUT: true; the input reads as it did. -/
def fnBatchesNextYieldsEachPairThenEndsSpec : ChangeSpec := { name := "fnBatchesNextYieldsEachPairThenEnds", fn := fun _ => fun
  | [d] => { results := [.lit (.bool true)], args := [d] }
  | _ => none }
def fnBatchesNextYieldsEachPairThenEndsRow : OpenClaim := { program := "qxb6612907a", sum := "a806db64b03e356fecfcc77de75fa5e607280a2f1314e8f366485f8789a84907", func := "example.com/ordo/ordo/zzlaws_internal_disk_b1.FnBatchesNextYieldsEachPairThenEnds", spec := "fnBatchesNextYieldsEachPairThenEnds", unfollowed := true, recurses := true, apart := false }
def FnBatchesNextYieldsEachPairThenEndsSaid : Prop := fnBatchesNextYieldsEachPairThenEndsRow.holds Try.pinned (OpenSpec.ofChange fnBatchesNextYieldsEachPairThenEndsSpec)

/-- ITS FALSE NEIGHBOUR: 'it returns false'. Refute it at one input. -/
def fnBatchesNextYieldsEachPairThenEndsWrong : ChangeSpec := { name := "fnBatchesNextYieldsEachPairThenEnds", fn := fun _ => fun
  | [d] => { results := [.lit (.bool false)], args := [d] }
  | _ => none }
def FnBatchesNextYieldsEachPairThenEndsWrongFalsely : Prop := fnBatchesNextYieldsEachPairThenEndsRow.holds Try.pinned (OpenSpec.ofChange fnBatchesNextYieldsEachPairThenEndsWrong)

/-- 'zzlaws_internal_disk_b1.FnBatchesNextRefillsFromEachRead': WHATEVER THE INPUT: true; the input reads as it did. -/
def fnBatchesNextRefillsFromEachReadSpec : ChangeSpec := { name := "fnBatchesNextRefillsFromEachRead", fn := fun _ => fun
  | [d1, d2] => { results := [.lit (.bool true)], args := [d1, d2] }
  | _ => none }
def fnBatchesNextRefillsFromEachReadRow : OpenClaim := { program := "qxb6612907a", sum := "a806db64b03e356fecfcc77de75fa5e607280a2f1314e8f366485f8789a84907", func := "example.com/ordo/ordo/zzlaws_internal_disk_b1.FnBatchesNextRefillsFromEachRead", spec := "fnBatchesNextRefillsFromEachRead", unfollowed := true, recurses := true, apart := false }
def FnBatchesNextRefillsFromEachReadSaid : Prop := fnBatchesNextRefillsFromEachReadRow.holds Try.pinned (OpenSpec.ofChange fnBatchesNextRefillsFromEachReadSpec)

/-- ITS FALSE NEIGHBOUR: 'it returns false'. Refute it at one input. -/
def fnBatchesNextRefillsFromEachReadWrong : ChangeSpec := { name := "fnBatchesNextRefillsFromEachRead", fn := fun _ => fun
  | [d1, d2] => { results := [.lit (.bool false)], args := [d1, d2] }
  | _ => none }
def FnBatchesNextRefillsFromEachReadWrongFalsely : Prop := fnBatchesNextRefillsFromEachReadRow.holds Try.pinned (OpenSpec.ofChange fnBatchesNextRefillsFromEachReadWrong)

/-- 'zzlaws_internal_disk_b1.FnSetBlockFilterIsTheBlocksTail': WHATEVER THE INPUT: true; the input reads as it did. -/
def fnSetBlockFilterIsTheBlocksTailSpec : ChangeSpec := { name := "fnSetBlockFilterIsTheBlocksTail", fn := fun _ => fun
  | [d1, d2, d3] => { results := [.lit (.bool true)], args := [d1, d2, d3] }
  | _ => none }
def fnSetBlockFilterIsTheBlocksTailRow : OpenClaim := { program := "qxb6612907a", sum := "a806db64b03e356fecfcc77de75fa5e607280a2f1314e8f366485f8789a84907", func := "example.com/ordo/ordo/zzlaws_internal_disk_b1.FnSetBlockFilterIsTheBlocksTail", spec := "fnSetBlockFilterIsTheBlocksTail", apart := false }
def FnSetBlockFilterIsTheBlocksTailSaid : Prop := fnSetBlockFilterIsTheBlocksTailRow.holds Try.pinned (OpenSpec.ofChange fnSetBlockFilterIsTheBlocksTailSpec)

/-- ITS FALSE NEIGHBOUR: 'it returns false'. Refute it at one input. -/
def fnSetBlockFilterIsTheBlocksTailWrong : ChangeSpec := { name := "fnSetBlockFilterIsTheBlocksTail", fn := fun _ => fun
  | [d1, d2, d3] => { results := [.lit (.bool false)], args := [d1, d2, d3] }
  | _ => none }
def FnSetBlockFilterIsTheBlocksTailWrongFalsely : Prop := fnSetBlockFilterIsTheBlocksTailRow.holds Try.pinned (OpenSpec.ofChange fnSetBlockFilterIsTheBlocksTailWrong)

end Rows
end Go.Proofs.Qxb6612907a
