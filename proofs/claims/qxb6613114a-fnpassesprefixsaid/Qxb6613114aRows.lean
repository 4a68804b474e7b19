/-
  No cell of these rows narrows 'for every input' (looked for: loops, veiled, ifaces, maps, wideKeys, modest, calm, conditions, laid).
  DERIVED. THE GIVEN ROWS OF THIS SEAT. 1 by the template 'for every input the law returns true; each argument reads behind the call as it read before'; 0 by the template 'total and deterministic' (their statements: Qxb6613114aTotals.lean).
  GIVEN WITH THE SEED: the statements are not yours to turn. If you find one false, say at which input.
  Laid BY PROGRAM, IN A SANDBOX (cutbox-rows.mjs): the forced cells as the released guide's own fill.sh prints them over the translation 93287d5bb40b7e35… (all of the seat's roots in one cut). By AI agents, Wed Nov 11 2026. No macro, syntax, notation, axiom, sorry.
-/
import Derived.Test.Qxb6613114aChecked
import GoSem.Claim
import GoSem.ClaimJoined
import GoSem.ClaimMapViews
import Derived.JoinedTies
import Derived.KernelRfl
namespace Go.Proofs.Qxb6613114a
/- THE CELL 'sum', in the pinned program and in every row, IS THE sha256 OF THE DUMP (.gsa) THAT Qxb6613114aProg.lean LOADS. Nothing in Lean hashes anything: it is a label: what it is worth is what the hold of that sum in a sandbox is worth. -/
noncomputable def Try.pinned : Pinned := { name := "qxb6613114a", sum := "93287d5bb40b7e35140ae233fa9bc29a74377efd5c3e670c3b87662fc3f10852", checked := Try.checked }
namespace Rows
def none {H : Type} : Left H := { results := [], args := [] }

/-- 'zzlaws_root_b1.FnPassesPrefix': WHATEVER THE INPUT: true; the input reads as it did. -/
def fnPassesPrefixSpec : ChangeSpec := { name := "fnPassesPrefix", fn := fun _ => fun
  | [d1, d2] => { results := [.lit (.bool true)], args := [d1, d2] }
  | _ => none }
def fnPassesPrefixRow : OpenClaim := { program := "qxb6613114a", sum := "93287d5bb40b7e35140ae233fa9bc29a74377efd5c3e670c3b87662fc3f10852", func := "example.com/shardwright/shardwright/zzlaws_root_b1.FnPassesPrefix", spec := "fnPassesPrefix", inPlace := ["internal/bytealg.Compare"], apart := false }
def FnPassesPrefixSaid : Prop := fnPassesPrefixRow.holds Try.pinned (OpenSpec.ofChange fnPassesPrefixSpec)

/-- ITS FALSE NEIGHBOUR: 'it returns false'. Refute it at one input. -/
def fnPassesPrefixWrong : ChangeSpec := { name := "fnPassesPrefix", fn := fun _ => fun
  | [d1, d2] => { results := [.lit (.bool false)], args := [d1, d2] }
  | _ => none }
def FnPassesPrefixWrongFalsely : Prop := fnPassesPrefixRow.holds Try.pinned (OpenSpec.ofChange fnPassesPrefixWrong)

end Rows
end Go.Proofs.Qxb6613114a
