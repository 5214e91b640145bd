/-
  No cell of these rows narrows 'for every input' (looked for: loops, veiled, ifaces, maps, wideKeys, modest, calm, conditions, laid).
  DERIVED. THE GIVEN ROWS OF THIS SEAT. 4 by the template 'for every input the law returns true; each argument reads behind the call as it read before'; 0 by the template 'total and deterministic' (their statements: Qxb6616202aTotals.lean).
  GIVEN WITH THE SEED: the statements are not yours to turn. If you find one false, say at which input.
  Laid BY PROGRAM, IN A SANDBOX (cutbox-rows.mjs): the forced cells as the released guide's own fill.sh prints them over the translation 01b9aa60b0f31564… (all of the seat's roots in one cut). By AI agents, Wed Nov 11 2026. No macro, syntax, notation, axiom, sorry.
-/
import Derived.Test.Qxb6616202aChecked
import GoSem.Claim
import GoSem.ClaimJoined
import GoSem.ClaimMapViews
import Derived.JoinedTies
import Derived.KernelRfl
namespace Go.Proofs.Qxb6616202a
/- THE CELL 'sum', in the pinned program and in every row, IS THE sha256 OF THE DUMP (.gsa) THAT Qxb6616202aProg.lean LOADS. Nothing in Lean hashes anything: it is a label: what it is worth is what the hold of that sum in a sandbox is worth. -/
noncomputable def Try.pinned : Pinned := { name := "qxb6616202a", sum := "01b9aa60b0f31564ab62091cb744670608a9bc3385fa394c72c5fac40df536e9", checked := Try.checked }
namespace Rows
def none {H : Type} : Left H := { results := [], args := [] }

/-- 'zzlaws_races_b1.FnClockHoldsExactlyLinesUpToEntry': WHATEVER THE INPUT: true; the input reads as it did. -/
def fnClockHoldsExactlyLinesUpToEntrySpec : ChangeSpec := { name := "fnClockHoldsExactlyLinesUpToEntry", fn := fun _ => fun
  | [d1, d2, d3, d4, d5, d6, d7, d8, d9] => { results := [.lit (.bool true)], args := [d1, d2, d3, d4, d5, d6, d7, d8, d9] }
  | _ => none }
def fnClockHoldsExactlyLinesUpToEntryRow : OpenClaim := { program := "qxb6616202a", sum := "01b9aa60b0f31564ab62091cb744670608a9bc3385fa394c72c5fac40df536e9", func := "example.com/hindsight/hindsight/zzlaws_races_b1.FnClockHoldsExactlyLinesUpToEntry", spec := "fnClockHoldsExactlyLinesUpToEntry", plainKeys := false, apart := false }
def FnClockHoldsExactlyLinesUpToEntrySaid : Prop := fnClockHoldsExactlyLinesUpToEntryRow.holds Try.pinned (OpenSpec.ofChange fnClockHoldsExactlyLinesUpToEntrySpec)

/-- ITS FALSE NEIGHBOUR: 'it returns false'. Refute it at one input. -/
def fnClockHoldsExactlyLinesUpToEntryWrong : ChangeSpec := { name := "fnClockHoldsExactlyLinesUpToEntry", fn := fun _ => fun
  | [d1, d2, d3, d4, d5, d6, d7, d8, d9] => { results := [.lit (.bool false)], args := [d1, d2, d3, d4, d5, d6, d7, d8, d9] }
  | _ => none }
def FnClockHoldsExactlyLinesUpToEntryWrongFalsely : Prop := fnClockHoldsExactlyLinesUpToEntryRow.holds Try.pinned (OpenSpec.ofChange fnClockHoldsExactlyLinesUpToEntryWrong)

/-- 'zzlaws_races_b1.FnFlowGraphEdgeInsertedAnywhere': WHATEVER THE INPUT: true; the input reads as it did. -/
def fnFlowGraphEdgeInsertedAnywhereSpec : ChangeSpec := { name := "fnFlowGraphEdgeInsertedAnywhere", fn := fun _ => fun
  | [d1, d2, d3, d4, d5, d6] => { results := [.lit (.bool true)], args := [d1, d2, d3, d4, d5, d6] }
  | _ => none }
def fnFlowGraphEdgeInsertedAnywhereRow : OpenClaim := { program := "qxb6616202a", sum := "01b9aa60b0f31564ab62091cb744670608a9bc3385fa394c72c5fac40df536e9", func := "example.com/hindsight/hindsight/zzlaws_races_b1.FnFlowGraphEdgeInsertedAnywhere", spec := "fnFlowGraphEdgeInsertedAnywhere", plainKeys := false, apart := false }
def FnFlowGraphEdgeInsertedAnywhereSaid : Prop := fnFlowGraphEdgeInsertedAnywhereRow.holds Try.pinned (OpenSpec.ofChange fnFlowGraphEdgeInsertedAnywhereSpec)

/-- ITS FALSE NEIGHBOUR: 'it returns false'. Refute it at one input. -/
def fnFlowGraphEdgeInsertedAnywhereWrong : ChangeSpec := { name := "fnFlowGraphEdgeInsertedAnywhere", fn := fun _ => fun
  | [d1, d2, d3, d4, d5, d6] => { results := [.lit (.bool false)], args := [d1, d2, d3, d4, d5, d6] }
  | _ => none }
def FnFlowGraphEdgeInsertedAnywhereWrongFalsely : Prop := fnFlowGraphEdgeInsertedAnywhereRow.holds Try.pinned (OpenSpec.ofChange fnFlowGraphEdgeInsertedAnywhereWrong)

/-- 'zzlaws_races_b1.FnFlowGraphSwapAcrossTails': WHATEVER THE INPUT: true; the input reads as it did. -/
def fnFlowGraphSwapAcrossTailsSpec : ChangeSpec := { name := "fnFlowGraphSwapAcrossTails", fn := fun _ => fun
  | [d1, d2, d3, d4] => { results := [.lit (.bool true)], args := [d1, d2, d3, d4] }
  | _ => none }
def fnFlowGraphSwapAcrossTailsRow : OpenClaim := { program := "qxb6616202a", sum := "01b9aa60b0f31564ab62091cb744670608a9bc3385fa394c72c5fac40df536e9", func := "example.com/hindsight/hindsight/zzlaws_races_b1.FnFlowGraphSwapAcrossTails", spec := "fnFlowGraphSwapAcrossTails", plainKeys := false, apart := false }
def FnFlowGraphSwapAcrossTailsSaid : Prop := fnFlowGraphSwapAcrossTailsRow.holds Try.pinned (OpenSpec.ofChange fnFlowGraphSwapAcrossTailsSpec)

/-- ITS FALSE NEIGHBOUR: 'it returns false'. Refute it at one input. -/
def fnFlowGraphSwapAcrossTailsWrong : ChangeSpec := { name := "fnFlowGraphSwapAcrossTails", fn := fun _ => fun
  | [d1, d2, d3, d4] => { results := [.lit (.bool false)], args := [d1, d2, d3, d4] }
  | _ => none }
def FnFlowGraphSwapAcrossTailsWrongFalsely : Prop := fnFlowGraphSwapAcrossTailsRow.holds Try.pinned (OpenSpec.ofChange fnFlowGraphSwapAcrossTailsWrong)

/-- 'zzlaws_races_b1.FnPruneTwiceAsOnce': WHATEVER THE INPUT: true; the input reads as it did. -/
def fnPruneTwiceAsOnceSpec : ChangeSpec := { name := "fnPruneTwiceAsOnce", fn := fun _ => fun
  | [d1, d2, d3, d4, d5, d6, d7, d8, d9, d10] => { results := [.lit (.bool true)], args := [d1, d2, d3, d4, d5, d6, d7, d8, d9, d10] }
  | _ => none }
def fnPruneTwiceAsOnceRow : OpenClaim := { program := "qxb6616202a", sum := "01b9aa60b0f31564ab62091cb744670608a9bc3385fa394c72c5fac40df536e9", func := "example.com/hindsight/hindsight/zzlaws_races_b1.FnPruneTwiceAsOnce", spec := "fnPruneTwiceAsOnce", unfollowed := true, recurses := true, plainKeys := false, apart := false }
def FnPruneTwiceAsOnceSaid : Prop := fnPruneTwiceAsOnceRow.holds Try.pinned (OpenSpec.ofChange fnPruneTwiceAsOnceSpec)

/-- ITS FALSE NEIGHBOUR: 'it returns false'. Refute it at one input. -/
def fnPruneTwiceAsOnceWrong : ChangeSpec := { name := "fnPruneTwiceAsOnce", fn := fun _ => fun
  | [d1, d2, d3, d4, d5, d6, d7, d8, d9, d10] => { results := [.lit (.bool false)], args := [d1, d2, d3, d4, d5, d6, d7, d8, d9, d10] }
  | _ => none }
def FnPruneTwiceAsOnceWrongFalsely : Prop := fnPruneTwiceAsOnceRow.holds Try.pinned (OpenSpec.ofChange fnPruneTwiceAsOnceWrong)

end Rows
end Go.Proofs.Qxb6616202a
