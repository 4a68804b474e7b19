/-
  No cell of these rows narrows 'for every input' (looked for: loops, veiled, ifaces, maps, wideKeys, modest, calm, conditions, laid).
  DERIVED. THE GIVEN ROWS OF THIS SEAT. 1 by the template 'for every input the law returns true; each argument reads behind the call as it read before'; 0 by the template 'total and deterministic' (their statements: Qxb6613112aTotals.lean).
  GIVEN WITH THE SEED: the statements are not yours to turn. If you find one false, say at which input.
  Laid BY PROGRAM, IN A SANDBOX (cutbox-rows.mjs): the forced cells as the released guide's own fill.sh prints them over the translation ea8fe78a34b70c6a… (all of the seat's roots in one cut). By AI agents, Wed Nov 11 2026. No macro, syntax, notation, axiom, sorry.
-/
import Derived.Test.Qxb6613112aChecked
import GoSem.Claim
import GoSem.ClaimJoined
import GoSem.ClaimMapViews
import Derived.JoinedTies
import Derived.KernelRfl
namespace Go.Proofs.Qxb6613112a
/- THE CELL 'sum', in the pinned program and in every row, IS THE sha256 OF THE DUMP (.gsa) THAT Qxb6613112aProg.lean LOADS. Nothing in Lean hashes anything: it is a label: what it is worth is what the hold of that sum in a sandbox is worth. -/
noncomputable def Try.pinned : Pinned := { name := "qxb6613112a", sum := "ea8fe78a34b70c6a645416cdde002bcf7f541b94a6e4595d6f91a1784c4b002f", checked := Try.checked }
namespace Rows
def none {H : Type} : Left H := { results := [], args := [] }

/-- 'zzlaws_internal_storage_b1.FnHoldLetsTwoSeqnosOfCursorBuyOne': WHATEVER THE INPUT: true; the input reads as it did. -/
def fnHoldLetsTwoSeqnosOfCursorBuyOneSpec : ChangeSpec := { name := "fnHoldLetsTwoSeqnosOfCursorBuyOne", fn := fun _ => fun
  | [d1, d2, d3, d4, d5] => { results := [.lit (.bool true)], args := [d1, d2, d3, d4, d5] }
  | _ => none }
def fnHoldLetsTwoSeqnosOfCursorBuyOneRow : OpenClaim := { program := "qxb6613112a", sum := "ea8fe78a34b70c6a645416cdde002bcf7f541b94a6e4595d6f91a1784c4b002f", func := "example.com/shardtide/shardtide/zzlaws_internal_storage_b1.FnHoldLetsTwoSeqnosOfCursorBuyOne", spec := "fnHoldLetsTwoSeqnosOfCursorBuyOne", apart := false }
def FnHoldLetsTwoSeqnosOfCursorBuyOneSaid : Prop := fnHoldLetsTwoSeqnosOfCursorBuyOneRow.holds Try.pinned (OpenSpec.ofChange fnHoldLetsTwoSeqnosOfCursorBuyOneSpec)

/-- ITS FALSE NEIGHBOUR: 'it returns false'. Refute it at one input. -/
def fnHoldLetsTwoSeqnosOfCursorBuyOneWrong : ChangeSpec := { name := "fnHoldLetsTwoSeqnosOfCursorBuyOne", fn := fun _ => fun
  | [d1, d2, d3, d4, d5] => { results := [.lit (.bool false)], args := [d1, d2, d3, d4, d5] }
  | _ => none }
def FnHoldLetsTwoSeqnosOfCursorBuyOneWrongFalsely : Prop := fnHoldLetsTwoSeqnosOfCursorBuyOneRow.holds Try.pinned (OpenSpec.ofChange fnHoldLetsTwoSeqnosOfCursorBuyOneWrong)

end Rows
end Go.Proofs.Qxb6613112a
