/-
  No cell of these rows narrows 'for every input' (looked for: loops, veiled, ifaces, maps, wideKeys, modest, calm, conditions, laid).
  DERIVED. THE GIVEN ROWS OF THIS SEAT. 3 by the template 'for every input the law returns true; each argument reads behind the call as it read before'; 0 by the template 'total and deterministic' (their statements: Qxb6616450aTotals.lean).
  GIVEN WITH THE SEED: the statements are not yours to turn. If you find one false, say at which input.
  Laid BY PROGRAM, IN A SANDBOX (cutbox-rows.mjs): the forced cells as the released guide's own fill.sh prints them over the translation 2b97a1b345e1671c… (all of the seat's roots in one cut). By AI agents, Wed Nov 11 2026. No macro, syntax, notation, axiom, sorry.
-/
import Derived.Test.Qxb6616450aChecked
import GoSem.Claim
import GoSem.ClaimJoined
import GoSem.ClaimMapViews
import Derived.JoinedTies
import Derived.KernelRfl
namespace Go.Proofs.Qxb6616450a
/- THE CELL 'sum', in the pinned program and in every row, IS THE sha256 OF THE DUMP (.gsa) THAT Qxb6616450aProg.lean LOADS. Nothing in Lean hashes anything: it is a label: what it is worth is what the hold of that sum in a sandbox is worth. -/
noncomputable def Try.pinned : Pinned := { name := "qxb6616450a", sum := "2b97a1b345e1671c89376cfeac68721e4072bdf344d099428c90d029c4b7701d", checked := Try.checked }
namespace Rows
def none {H : Type} : Left H := { results := [], args := [] }

/-- 'zzlaws_root_b1.FnWideSignNegation': WHATEVER THE INPUT: true; the input reads as it did. -/
def fnWideSignNegationSpec : ChangeSpec := { name := "fnWideSignNegation", fn := fun _ => fun
  | [d1, d2] => { results := [.lit (.bool true)], args := [d1, d2] }
  | _ => none }
def fnWideSignNegationRow : OpenClaim := { program := "qxb6616450a", sum := "2b97a1b345e1671c89376cfeac68721e4072bdf344d099428c90d029c4b7701d", func := "example.com/dioramic/dioramic/zzlaws_root_b1.FnWideSignNegation", spec := "fnWideSignNegation", apart := false }
def FnWideSignNegationSaid : Prop := fnWideSignNegationRow.holds Try.pinned (OpenSpec.ofChange fnWideSignNegationSpec)

/-- ITS FALSE NEIGHBOUR: 'it returns false'. Refute it at one input. -/
def fnWideSignNegationWrong : ChangeSpec := { name := "fnWideSignNegation", fn := fun _ => fun
  | [d1, d2] => { results := [.lit (.bool false)], args := [d1, d2] }
  | _ => none }
def FnWideSignNegationWrongFalsely : Prop := fnWideSignNegationRow.holds Try.pinned (OpenSpec.ofChange fnWideSignNegationWrong)

/-- 'zzlaws_root_b1.FnWideCompareIsSignOfDifference': WHATEVER THE INPUT: true; the input reads as it did. -/
def fnWideCompareIsSignOfDifferenceSpec : ChangeSpec := { name := "fnWideCompareIsSignOfDifference", fn := fun _ => fun
  | [d1, d2, d3, d4] => { results := [.lit (.bool true)], args := [d1, d2, d3, d4] }
  | _ => none }
def fnWideCompareIsSignOfDifferenceRow : OpenClaim := { program := "qxb6616450a", sum := "2b97a1b345e1671c89376cfeac68721e4072bdf344d099428c90d029c4b7701d", func := "example.com/dioramic/dioramic/zzlaws_root_b1.FnWideCompareIsSignOfDifference", spec := "fnWideCompareIsSignOfDifference", apart := false }
def FnWideCompareIsSignOfDifferenceSaid : Prop := fnWideCompareIsSignOfDifferenceRow.holds Try.pinned (OpenSpec.ofChange fnWideCompareIsSignOfDifferenceSpec)

/-- ITS FALSE NEIGHBOUR: 'it returns false'. Refute it at one input. -/
def fnWideCompareIsSignOfDifferenceWrong : ChangeSpec := { name := "fnWideCompareIsSignOfDifference", fn := fun _ => fun
  | [d1, d2, d3, d4] => { results := [.lit (.bool false)], args := [d1, d2, d3, d4] }
  | _ => none }
def FnWideCompareIsSignOfDifferenceWrongFalsely : Prop := fnWideCompareIsSignOfDifferenceRow.holds Try.pinned (OpenSpec.ofChange fnWideCompareIsSignOfDifferenceWrong)

/-- 'zzlaws_root_b1.FnGroupEndOfConsecutiveBlock': WHATEVER THE INPUT: true; the input reads as it did. -/
def fnGroupEndOfConsecutiveBlockSpec : ChangeSpec := { name := "fnGroupEndOfConsecutiveBlock", fn := fun _ => fun
  | [d1, d2] => { results := [.lit (.bool true)], args := [d1, d2] }
  | _ => none }
def fnGroupEndOfConsecutiveBlockRow : OpenClaim := { program := "qxb6616450a", sum := "2b97a1b345e1671c89376cfeac68721e4072bdf344d099428c90d029c4b7701d", func := "example.com/dioramic/dioramic/zzlaws_root_b1.FnGroupEndOfConsecutiveBlock", spec := "fnGroupEndOfConsecutiveBlock", apart := false }
def FnGroupEndOfConsecutiveBlockSaid : Prop := fnGroupEndOfConsecutiveBlockRow.holds Try.pinned (OpenSpec.ofChange fnGroupEndOfConsecutiveBlockSpec)

/-- ITS FALSE NEIGHBOUR: 'it returns false'. Refute it at one input. -/
def fnGroupEndOfConsecutiveBlockWrong : ChangeSpec := { name := "fnGroupEndOfConsecutiveBlock", fn := fun _ => fun
  | [d1, d2] => { results := [.lit (.bool false)], args := [d1, d2] }
  | _ => none }
def FnGroupEndOfConsecutiveBlockWrongFalsely : Prop := fnGroupEndOfConsecutiveBlockRow.holds Try.pinned (OpenSpec.ofChange fnGroupEndOfConsecutiveBlockWrong)

end Rows
end Go.Proofs.Qxb6616450a
