/-
  No cell of these rows narrows 'for every input' (looked for: loops, veiled, ifaces, maps, wideKeys, modest, calm, conditions, laid).
  DERIVED. THE GIVEN ROWS OF THIS SEAT. 1 by the template 'for every input the law returns true; each argument reads behind the call as it read before'; 0 by the template 'total and deterministic' (their statements: Qxb6616227aTotals.lean).
  GIVEN WITH THE SEED: the statements are not yours to turn. If you find one false, say at which input.
  Laid BY PROGRAM, IN A SANDBOX (cutbox-rows.mjs): the forced cells as the released guide's own fill.sh prints them over the translation a19901004d2fcd64… (all of the seat's roots in one cut). By AI agents, Wed Nov 11 2026. No macro, syntax, notation, axiom, sorry.
-/
import Derived.Test.Qxb6616227aChecked
import GoSem.Claim
import GoSem.ClaimJoined
import GoSem.ClaimMapViews
import Derived.JoinedTies
import Derived.KernelRfl
namespace Go.Proofs.Qxb6616227a
/- THE CELL 'sum', in the pinned program and in every row, IS THE sha256 OF THE DUMP (.gsa) THAT Qxb6616227aProg.lean LOADS. Nothing in Lean hashes anything: it is a label: what it is worth is what the hold of that sum in a sandbox is worth. -/
noncomputable def Try.pinned : Pinned := { name := "qxb6616227a", sum := "a19901004d2fcd6487ff3190bc4507b8253a94237fbf7df87d9dbdce3c820718", checked := Try.checked }
namespace Rows
def none {H : Type} : Left H := { results := [], args := [] }

/-- 'zzlaws_internal_syntax_b1.FnInspectBinaryChainPreorder': WHATEVER THE INPUT: true; the input reads as it did. -/
def fnInspectBinaryChainPreorderSpec : ChangeSpec := { name := "fnInspectBinaryChainPreorder", fn := fun _ => fun
  | [d1, d2, d3, d4] => { results := [.lit (.bool true)], args := [d1, d2, d3, d4] }
  | _ => none }
def fnInspectBinaryChainPreorderRow : OpenClaim := { program := "qxb6616227a", sum := "a19901004d2fcd6487ff3190bc4507b8253a94237fbf7df87d9dbdce3c820718", func := "example.com/tanager/tanager/zzlaws_internal_syntax_b1.FnInspectBinaryChainPreorder", spec := "fnInspectBinaryChainPreorder", unfollowed := true, recurses := true, apart := false }
def FnInspectBinaryChainPreorderSaid : Prop := fnInspectBinaryChainPreorderRow.holds Try.pinned (OpenSpec.ofChange fnInspectBinaryChainPreorderSpec)

/-- ITS FALSE NEIGHBOUR: 'it returns false'. Refute it at one input. -/
def fnInspectBinaryChainPreorderWrong : ChangeSpec := { name := "fnInspectBinaryChainPreorder", fn := fun _ => fun
  | [d1, d2, d3, d4] => { results := [.lit (.bool false)], args := [d1, d2, d3, d4] }
  | _ => none }
def FnInspectBinaryChainPreorderWrongFalsely : Prop := fnInspectBinaryChainPreorderRow.holds Try.pinned (OpenSpec.ofChange fnInspectBinaryChainPreorderWrong)

end Rows
end Go.Proofs.Qxb6616227a
