/-
  No cell of these rows narrows 'for every input' (looked for: loops, veiled, ifaces, maps, wideKeys, modest, calm, conditions, laid).
  DERIVED. THE GIVEN ROWS OF THIS SEAT. 5 by the template 'for every input the law returns true; each argument reads behind the call as it read before'; 0 by the template 'total and deterministic' (their statements: Qxb6616487aTotals.lean).
  GIVEN WITH THE SEED: the statements are not yours to turn. If you find one false, say at which input.
  Laid BY PROGRAM, IN A SANDBOX (cutbox-rows.mjs): the forced cells as the released guide's own fill.sh prints them over the translation 4eb3df3ac1d47a4d… (all of the seat's roots in one cut). By AI agents, Wed Nov 11 2026. No macro, syntax, notation, axiom, sorry.
-/
import Derived.Test.Qxb6616487aChecked
import GoSem.Claim
import GoSem.ClaimJoined
import GoSem.ClaimMapViews
import Derived.JoinedTies
import Derived.KernelRfl
namespace Go.Proofs.Qxb6616487a
/- THE CELL 'sum', in the pinned program and in every row, IS THE sha256 OF THE DUMP (.gsa) THAT Qxb6616487aProg.lean LOADS. Nothing in Lean hashes anything: it is a label: what it is worth is what the hold of that sum in a sandbox is worth. -/
noncomputable def Try.pinned : Pinned := { name := "qxb6616487a", sum := "4eb3df3ac1d47a4d653b419fe24675f6e7003134da044743aa3eb1b6936067ad", checked := Try.checked }
namespace Rows
def none {H : Type} : Left H := { results := [], args := [] }

/-- 'zzlaws_internal_replay_b1.FnHoldersPushScriptAppendsAndNumbers': WHATEVER THE INPUT: true; the input reads as it did. -/
def fnHoldersPushScriptAppendsAndNumbersSpec : ChangeSpec := { name := "fnHoldersPushScriptAppendsAndNumbers", fn := fun _ => fun
  | [d1, d2] => { results := [.lit (.bool true)], args := [d1, d2] }
  | _ => none }
def fnHoldersPushScriptAppendsAndNumbersRow : OpenClaim := { program := "qxb6616487a", sum := "4eb3df3ac1d47a4d653b419fe24675f6e7003134da044743aa3eb1b6936067ad", func := "example.com/stampwise/stampwise/zzlaws_internal_replay_b1.FnHoldersPushScriptAppendsAndNumbers", spec := "fnHoldersPushScriptAppendsAndNumbers", apart := false }
def FnHoldersPushScriptAppendsAndNumbersSaid : Prop := fnHoldersPushScriptAppendsAndNumbersRow.holds Try.pinned (OpenSpec.ofChange fnHoldersPushScriptAppendsAndNumbersSpec)

/-- ITS FALSE NEIGHBOUR: 'it returns false'. Refute it at one input. -/
def fnHoldersPushScriptAppendsAndNumbersWrong : ChangeSpec := { name := "fnHoldersPushScriptAppendsAndNumbers", fn := fun _ => fun
  | [d1, d2] => { results := [.lit (.bool false)], args := [d1, d2] }
  | _ => none }
def FnHoldersPushScriptAppendsAndNumbersWrongFalsely : Prop := fnHoldersPushScriptAppendsAndNumbersRow.holds Try.pinned (OpenSpec.ofChange fnHoldersPushScriptAppendsAndNumbersWrong)

/-- 'zzlaws_internal_replay_b1.FnFirstReadFromJoinedHistory': WHATEVER THE INPUT: true; the input reads as it did. -/
def fnFirstReadFromJoinedHistorySpec : ChangeSpec := { name := "fnFirstReadFromJoinedHistory", fn := fun _ => fun
  | [d1, d2, d3, d4] => { results := [.lit (.bool true)], args := [d1, d2, d3, d4] }
  | _ => none }
def fnFirstReadFromJoinedHistoryRow : OpenClaim := { program := "qxb6616487a", sum := "4eb3df3ac1d47a4d653b419fe24675f6e7003134da044743aa3eb1b6936067ad", func := "example.com/stampwise/stampwise/zzlaws_internal_replay_b1.FnFirstReadFromJoinedHistory", spec := "fnFirstReadFromJoinedHistory", unfollowed := true, recurses := true, apart := false }
def FnFirstReadFromJoinedHistorySaid : Prop := fnFirstReadFromJoinedHistoryRow.holds Try.pinned (OpenSpec.ofChange fnFirstReadFromJoinedHistorySpec)

/-- ITS FALSE NEIGHBOUR: 'it returns false'. Refute it at one input. -/
def fnFirstReadFromJoinedHistoryWrong : ChangeSpec := { name := "fnFirstReadFromJoinedHistory", fn := fun _ => fun
  | [d1, d2, d3, d4] => { results := [.lit (.bool false)], args := [d1, d2, d3, d4] }
  | _ => none }
def FnFirstReadFromJoinedHistoryWrongFalsely : Prop := fnFirstReadFromJoinedHistoryRow.holds Try.pinned (OpenSpec.ofChange fnFirstReadFromJoinedHistoryWrong)

/-- 'zzlaws_internal_replay_b1.FnFirstReadFromOneInserted': WHATEVER THE INPUT: true; the input reads as it did. -/
def fnFirstReadFromOneInsertedSpec : ChangeSpec := { name := "fnFirstReadFromOneInserted", fn := fun _ => fun
  | [d1, d2, d3, d4, d5] => { results := [.lit (.bool true)], args := [d1, d2, d3, d4, d5] }
  | _ => none }
def fnFirstReadFromOneInsertedRow : OpenClaim := { program := "qxb6616487a", sum := "4eb3df3ac1d47a4d653b419fe24675f6e7003134da044743aa3eb1b6936067ad", func := "example.com/stampwise/stampwise/zzlaws_internal_replay_b1.FnFirstReadFromOneInserted", spec := "fnFirstReadFromOneInserted", unfollowed := true, recurses := true, apart := false }
def FnFirstReadFromOneInsertedSaid : Prop := fnFirstReadFromOneInsertedRow.holds Try.pinned (OpenSpec.ofChange fnFirstReadFromOneInsertedSpec)

/-- ITS FALSE NEIGHBOUR: 'it returns false'. Refute it at one input. -/
def fnFirstReadFromOneInsertedWrong : ChangeSpec := { name := "fnFirstReadFromOneInserted", fn := fun _ => fun
  | [d1, d2, d3, d4, d5] => { results := [.lit (.bool false)], args := [d1, d2, d3, d4, d5] }
  | _ => none }
def FnFirstReadFromOneInsertedWrongFalsely : Prop := fnFirstReadFromOneInsertedRow.holds Try.pinned (OpenSpec.ofChange fnFirstReadFromOneInsertedWrong)

/-- 'zzlaws_internal_replay_b1.FnVersionRemoveThenFindPredecessor': WHATEVER THE INPUT: true; the input reads as it did. -/
def fnVersionRemoveThenFindPredecessorSpec : ChangeSpec := { name := "fnVersionRemoveThenFindPredecessor", fn := fun _ => fun
  | [d1, d2] => { results := [.lit (.bool true)], args := [d1, d2] }
  | _ => none }
def fnVersionRemoveThenFindPredecessorRow : OpenClaim := { program := "qxb6616487a", sum := "4eb3df3ac1d47a4d653b419fe24675f6e7003134da044743aa3eb1b6936067ad", func := "example.com/stampwise/stampwise/zzlaws_internal_replay_b1.FnVersionRemoveThenFindPredecessor", spec := "fnVersionRemoveThenFindPredecessor", unfollowed := true, recurses := true, apart := false }
def FnVersionRemoveThenFindPredecessorSaid : Prop := fnVersionRemoveThenFindPredecessorRow.holds Try.pinned (OpenSpec.ofChange fnVersionRemoveThenFindPredecessorSpec)

/-- ITS FALSE NEIGHBOUR: 'it returns false'. Refute it at one input. -/
def fnVersionRemoveThenFindPredecessorWrong : ChangeSpec := { name := "fnVersionRemoveThenFindPredecessor", fn := fun _ => fun
  | [d1, d2] => { results := [.lit (.bool false)], args := [d1, d2] }
  | _ => none }
def FnVersionRemoveThenFindPredecessorWrongFalsely : Prop := fnVersionRemoveThenFindPredecessorRow.holds Try.pinned (OpenSpec.ofChange fnVersionRemoveThenFindPredecessorWrong)

/-- 'zzlaws_internal_replay_b1.FnVersionRemoveTwoOrderFree': WHATEVER THE INPUT: true; the input reads as it did. -/
def fnVersionRemoveTwoOrderFreeSpec : ChangeSpec := { name := "fnVersionRemoveTwoOrderFree", fn := fun _ => fun
  | [d1, d2, d3] => { results := [.lit (.bool true)], args := [d1, d2, d3] }
  | _ => none }
def fnVersionRemoveTwoOrderFreeRow : OpenClaim := { program := "qxb6616487a", sum := "4eb3df3ac1d47a4d653b419fe24675f6e7003134da044743aa3eb1b6936067ad", func := "example.com/stampwise/stampwise/zzlaws_internal_replay_b1.FnVersionRemoveTwoOrderFree", spec := "fnVersionRemoveTwoOrderFree", unfollowed := true, recurses := true, apart := false }
def FnVersionRemoveTwoOrderFreeSaid : Prop := fnVersionRemoveTwoOrderFreeRow.holds Try.pinned (OpenSpec.ofChange fnVersionRemoveTwoOrderFreeSpec)

/-- ITS FALSE NEIGHBOUR: 'it returns false'. Refute it at one input. -/
def fnVersionRemoveTwoOrderFreeWrong : ChangeSpec := { name := "fnVersionRemoveTwoOrderFree", fn := fun _ => fun
  | [d1, d2, d3] => { results := [.lit (.bool false)], args := [d1, d2, d3] }
  | _ => none }
def FnVersionRemoveTwoOrderFreeWrongFalsely : Prop := fnVersionRemoveTwoOrderFreeRow.holds Try.pinned (OpenSpec.ofChange fnVersionRemoveTwoOrderFreeWrong)

end Rows
end Go.Proofs.Qxb6616487a
