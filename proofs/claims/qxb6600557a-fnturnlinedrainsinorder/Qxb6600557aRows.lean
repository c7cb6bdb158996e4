/-
  No cell of these rows narrows 'for every input' (looked for: loops, veiled, ifaces, maps, wideKeys, modest, calm, conditions, laid).
  DERIVED. THE GIVEN ROWS OF THIS SEAT. 7 by the template 'for every input the law returns true; each argument reads behind the call as it read before'; 0 by the template 'total and deterministic' (their statements: Qxb6600557aTotals.lean).
  GIVEN WITH THE SEED: the statements are not yours to turn. If you find one false, say at which input.
  Laid BY PROGRAM, IN A SANDBOX (cutbox-rows.mjs): the forced cells as the released guide's own fill.sh prints them over the translation d6ff79a93ef22fbc… (all of the seat's roots in one cut). By AI agents, Wed Nov 11 2026. No macro, syntax, notation, axiom, sorry.
-/
import Derived.Test.Qxb6600557aChecked
import GoSem.Claim
import GoSem.ClaimJoined
import GoSem.ClaimMapViews
import Derived.JoinedTies
import Derived.KernelRfl
namespace Go.Proofs.Qxb6600557a
/- THE CELL 'sum', in the pinned program and in every row, IS THE sha256 OF THE DUMP (.gsa) THAT Qxb6600557aProg.lean LOADS. Nothing in Lean hashes anything: it is a label: what it is worth is what the hold of that sum in a sandbox is worth. -/
noncomputable def Try.pinned : Pinned := { name := "qxb6600557a", sum := "d6ff79a93ef22fbc6378dea1424140d138afd6df19c6979d6031749b4aa5a303", checked := Try.checked }
namespace Rows
def none {H : Type} : Left H := { results := [], args := [] }

/-- 'zzlaws_root_b1.FnQuotedEndMatchesStateMachine': WHATEVER THE INPUT: true; the input reads as it did. -/
def fnQuotedEndMatchesStateMachineSpec : ChangeSpec := { name := "fnQuotedEndMatchesStateMachine", fn := fun _ => fun
  | [d1, d2, d3, d4] => { results := [.lit (.bool true)], args := [d1, d2, d3, d4] }
  | _ => none }
def fnQuotedEndMatchesStateMachineRow : OpenClaim := { program := "qxb6600557a", sum := "d6ff79a93ef22fbc6378dea1424140d138afd6df19c6979d6031749b4aa5a303", func := "example.com/nursery/nursery/zzlaws_root_b1.FnQuotedEndMatchesStateMachine", spec := "fnQuotedEndMatchesStateMachine", apart := false }
def FnQuotedEndMatchesStateMachineSaid : Prop := fnQuotedEndMatchesStateMachineRow.holds Try.pinned (OpenSpec.ofChange fnQuotedEndMatchesStateMachineSpec)

/-- ITS FALSE NEIGHBOUR: 'it returns false'. Refute it at one input. -/
def fnQuotedEndMatchesStateMachineWrong : ChangeSpec := { name := "fnQuotedEndMatchesStateMachine", fn := fun _ => fun
  | [d1, d2, d3, d4] => { results := [.lit (.bool false)], args := [d1, d2, d3, d4] }
  | _ => none }
def FnQuotedEndMatchesStateMachineWrongFalsely : Prop := fnQuotedEndMatchesStateMachineRow.holds Try.pinned (OpenSpec.ofChange fnQuotedEndMatchesStateMachineWrong)

/-- 'zzlaws_root_b1.FnQuotedEndFindsEncodedEnd': WHATEVER THE INPUT: true; the input reads as it did. -/
def fnQuotedEndFindsEncodedEndSpec : ChangeSpec := { name := "fnQuotedEndFindsEncodedEnd", fn := fun _ => fun
  | [d1, d2, d3, d4, d5, d6] => { results := [.lit (.bool true)], args := [d1, d2, d3, d4, d5, d6] }
  | _ => none }
def fnQuotedEndFindsEncodedEndRow : OpenClaim := { program := "qxb6600557a", sum := "d6ff79a93ef22fbc6378dea1424140d138afd6df19c6979d6031749b4aa5a303", func := "example.com/nursery/nursery/zzlaws_root_b1.FnQuotedEndFindsEncodedEnd", spec := "fnQuotedEndFindsEncodedEnd", apart := false }
def FnQuotedEndFindsEncodedEndSaid : Prop := fnQuotedEndFindsEncodedEndRow.holds Try.pinned (OpenSpec.ofChange fnQuotedEndFindsEncodedEndSpec)

/-- ITS FALSE NEIGHBOUR: 'it returns false'. Refute it at one input. -/
def fnQuotedEndFindsEncodedEndWrong : ChangeSpec := { name := "fnQuotedEndFindsEncodedEnd", fn := fun _ => fun
  | [d1, d2, d3, d4, d5, d6] => { results := [.lit (.bool false)], args := [d1, d2, d3, d4, d5, d6] }
  | _ => none }
def FnQuotedEndFindsEncodedEndWrongFalsely : Prop := fnQuotedEndFindsEncodedEndRow.holds Try.pinned (OpenSpec.ofChange fnQuotedEndFindsEncodedEndWrong)

/-- 'zzlaws_root_b1.FnQuotedEndShiftsAndCloses': WHATEVER THE INPUT: true; the input reads as it did. -/
def fnQuotedEndShiftsAndClosesSpec : ChangeSpec := { name := "fnQuotedEndShiftsAndCloses", fn := fun _ => fun
  | [d1, d2, d3, d4, d5] => { results := [.lit (.bool true)], args := [d1, d2, d3, d4, d5] }
  | _ => none }
def fnQuotedEndShiftsAndClosesRow : OpenClaim := { program := "qxb6600557a", sum := "d6ff79a93ef22fbc6378dea1424140d138afd6df19c6979d6031749b4aa5a303", func := "example.com/nursery/nursery/zzlaws_root_b1.FnQuotedEndShiftsAndCloses", spec := "fnQuotedEndShiftsAndCloses", apart := false }
def FnQuotedEndShiftsAndClosesSaid : Prop := fnQuotedEndShiftsAndClosesRow.holds Try.pinned (OpenSpec.ofChange fnQuotedEndShiftsAndClosesSpec)

/-- ITS FALSE NEIGHBOUR: 'it returns false'. Refute it at one input. -/
def fnQuotedEndShiftsAndClosesWrong : ChangeSpec := { name := "fnQuotedEndShiftsAndCloses", fn := fun _ => fun
  | [d1, d2, d3, d4, d5] => { results := [.lit (.bool false)], args := [d1, d2, d3, d4, d5] }
  | _ => none }
def FnQuotedEndShiftsAndClosesWrongFalsely : Prop := fnQuotedEndShiftsAndClosesRow.holds Try.pinned (OpenSpec.ofChange fnQuotedEndShiftsAndClosesWrong)

/-- 'zzlaws_root_b1.FnCommentEndMatchesRecursiveParse': WHATEVER THE INPUT: true; the input reads as it did. -/
def fnCommentEndMatchesRecursiveParseSpec : ChangeSpec := { name := "fnCommentEndMatchesRecursiveParse", fn := fun _ => fun
  | [d1, d2] => { results := [.lit (.bool true)], args := [d1, d2] }
  | _ => none }
def fnCommentEndMatchesRecursiveParseRow : OpenClaim := { program := "qxb6600557a", sum := "d6ff79a93ef22fbc6378dea1424140d138afd6df19c6979d6031749b4aa5a303", func := "example.com/nursery/nursery/zzlaws_root_b1.FnCommentEndMatchesRecursiveParse", spec := "fnCommentEndMatchesRecursiveParse", recurses := true, apart := false }
def FnCommentEndMatchesRecursiveParseSaid : Prop := fnCommentEndMatchesRecursiveParseRow.holds Try.pinned (OpenSpec.ofChange fnCommentEndMatchesRecursiveParseSpec)

/-- ITS FALSE NEIGHBOUR: 'it returns false'. Refute it at one input. -/
def fnCommentEndMatchesRecursiveParseWrong : ChangeSpec := { name := "fnCommentEndMatchesRecursiveParse", fn := fun _ => fun
  | [d1, d2] => { results := [.lit (.bool false)], args := [d1, d2] }
  | _ => none }
def FnCommentEndMatchesRecursiveParseWrongFalsely : Prop := fnCommentEndMatchesRecursiveParseRow.holds Try.pinned (OpenSpec.ofChange fnCommentEndMatchesRecursiveParseWrong)

/-- 'zzlaws_root_b1.FnCommentEndStableUnderExtension': WHATEVER THE INPUT: true; the input reads as it did. -/
def fnCommentEndStableUnderExtensionSpec : ChangeSpec := { name := "fnCommentEndStableUnderExtension", fn := fun _ => fun
  | [d1, d2, d3] => { results := [.lit (.bool true)], args := [d1, d2, d3] }
  | _ => none }
def fnCommentEndStableUnderExtensionRow : OpenClaim := { program := "qxb6600557a", sum := "d6ff79a93ef22fbc6378dea1424140d138afd6df19c6979d6031749b4aa5a303", func := "example.com/nursery/nursery/zzlaws_root_b1.FnCommentEndStableUnderExtension", spec := "fnCommentEndStableUnderExtension", apart := false }
def FnCommentEndStableUnderExtensionSaid : Prop := fnCommentEndStableUnderExtensionRow.holds Try.pinned (OpenSpec.ofChange fnCommentEndStableUnderExtensionSpec)

/-- ITS FALSE NEIGHBOUR: 'it returns false'. Refute it at one input. -/
def fnCommentEndStableUnderExtensionWrong : ChangeSpec := { name := "fnCommentEndStableUnderExtension", fn := fun _ => fun
  | [d1, d2, d3] => { results := [.lit (.bool false)], args := [d1, d2, d3] }
  | _ => none }
def FnCommentEndStableUnderExtensionWrongFalsely : Prop := fnCommentEndStableUnderExtensionRow.holds Try.pinned (OpenSpec.ofChange fnCommentEndStableUnderExtensionWrong)

/-- 'zzlaws_root_b1.FnCommentEndNests': WHATEVER THE INPUT: true; the input reads as it did. -/
def fnCommentEndNestsSpec : ChangeSpec := { name := "fnCommentEndNests", fn := fun _ => fun
  | [d1, d2] => { results := [.lit (.bool true)], args := [d1, d2] }
  | _ => none }
def fnCommentEndNestsRow : OpenClaim := { program := "qxb6600557a", sum := "d6ff79a93ef22fbc6378dea1424140d138afd6df19c6979d6031749b4aa5a303", func := "example.com/nursery/nursery/zzlaws_root_b1.FnCommentEndNests", spec := "fnCommentEndNests", apart := false }
def FnCommentEndNestsSaid : Prop := fnCommentEndNestsRow.holds Try.pinned (OpenSpec.ofChange fnCommentEndNestsSpec)

/-- ITS FALSE NEIGHBOUR: 'it returns false'. Refute it at one input. -/
def fnCommentEndNestsWrong : ChangeSpec := { name := "fnCommentEndNests", fn := fun _ => fun
  | [d1, d2] => { results := [.lit (.bool false)], args := [d1, d2] }
  | _ => none }
def FnCommentEndNestsWrongFalsely : Prop := fnCommentEndNestsRow.holds Try.pinned (OpenSpec.ofChange fnCommentEndNestsWrong)

/-- 'zzlaws_root_b1.FnTurnLineDrainsInOrder': WHATEVER THE INPUT: true; the input reads as it did. -/
def fnTurnLineDrainsInOrderSpec : ChangeSpec := { name := "fnTurnLineDrainsInOrder", fn := fun _ => fun
  | [d1, d2, d3] => { results := [.lit (.bool true)], args := [d1, d2, d3] }
  | _ => none }
def fnTurnLineDrainsInOrderRow : OpenClaim := { program := "qxb6600557a", sum := "d6ff79a93ef22fbc6378dea1424140d138afd6df19c6979d6031749b4aa5a303", func := "example.com/nursery/nursery/zzlaws_root_b1.FnTurnLineDrainsInOrder", spec := "fnTurnLineDrainsInOrder", apart := false }
def FnTurnLineDrainsInOrderSaid : Prop := fnTurnLineDrainsInOrderRow.holds Try.pinned (OpenSpec.ofChange fnTurnLineDrainsInOrderSpec)

/-- ITS FALSE NEIGHBOUR: 'it returns false'. Refute it at one input. -/
def fnTurnLineDrainsInOrderWrong : ChangeSpec := { name := "fnTurnLineDrainsInOrder", fn := fun _ => fun
  | [d1, d2, d3] => { results := [.lit (.bool false)], args := [d1, d2, d3] }
  | _ => none }
def FnTurnLineDrainsInOrderWrongFalsely : Prop := fnTurnLineDrainsInOrderRow.holds Try.pinned (OpenSpec.ofChange fnTurnLineDrainsInOrderWrong)

end Rows
end Go.Proofs.Qxb6600557a
