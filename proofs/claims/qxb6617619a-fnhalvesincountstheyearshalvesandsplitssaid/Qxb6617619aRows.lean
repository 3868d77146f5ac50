/-
  No cell of these rows narrows 'for every input' (looked for: loops, veiled, ifaces, maps, wideKeys, modest, calm, conditions, laid).
  DERIVED. THE GIVEN ROWS OF THIS SEAT. 2 by the template 'for every input the law returns true; each argument reads behind the call as it read before'; 0 by the template 'total and deterministic' (their statements: Qxb6617619aTotals.lean).
  GIVEN WITH THE SEED: the statements are not yours to turn. If you find one false, say at which input.
  Laid BY PROGRAM, IN A SANDBOX (cutbox-rows.mjs): the forced cells as the released guide's own fill.sh prints them over the translation 24bab7bd78061238… (all of the seat's roots in one cut). By AI agents, Wed Nov 11 2026. No macro, syntax, notation, axiom, sorry.
-/
import Derived.Test.Qxb6617619aChecked
import GoSem.Claim
import GoSem.ClaimJoined
import GoSem.ClaimMapViews
import Derived.JoinedTies
import Derived.KernelRfl
namespace Go.Proofs.Qxb6617619a
/- THE CELL 'sum', in the pinned program and in every row, IS THE sha256 OF THE DUMP (.gsa) THAT Qxb6617619aProg.lean LOADS. Nothing in Lean hashes anything: it is a label: what it is worth is what the hold of that sum in a sandbox is worth. -/
noncomputable def Try.pinned : Pinned := { name := "qxb6617619a", sum := "24bab7bd78061238a78e0ba48747d3c3a82d70c5d5c9d9200eb618abc2c505f4", checked := Try.checked }
namespace Rows
def none {H : Type} : Left H := { results := [], args := [] }

/-- 'zzlaws_root_b1.FnHalvesInCountsTheYearsHalvesAndSplits': WHATEVER THE INPUT: true; the input reads as it did. -/
def fnHalvesInCountsTheYearsHalvesAndSplitsSpec : ChangeSpec := { name := "fnHalvesInCountsTheYearsHalvesAndSplits", fn := fun _ => fun
  | [d1, d2, d3, d4] => { results := [.lit (.bool true)], args := [d1, d2, d3, d4] }
  | _ => none }
def fnHalvesInCountsTheYearsHalvesAndSplitsRow : OpenClaim := { program := "qxb6617619a", sum := "24bab7bd78061238a78e0ba48747d3c3a82d70c5d5c9d9200eb618abc2c505f4", func := "example.com/vestline/vestline/zzlaws_root_b1.FnHalvesInCountsTheYearsHalvesAndSplits", spec := "fnHalvesInCountsTheYearsHalvesAndSplits", apart := false }
def FnHalvesInCountsTheYearsHalvesAndSplitsSaid : Prop := fnHalvesInCountsTheYearsHalvesAndSplitsRow.holds Try.pinned (OpenSpec.ofChange fnHalvesInCountsTheYearsHalvesAndSplitsSpec)

/-- ITS FALSE NEIGHBOUR: 'it returns false'. Refute it at one input. -/
def fnHalvesInCountsTheYearsHalvesAndSplitsWrong : ChangeSpec := { name := "fnHalvesInCountsTheYearsHalvesAndSplits", fn := fun _ => fun
  | [d1, d2, d3, d4] => { results := [.lit (.bool false)], args := [d1, d2, d3, d4] }
  | _ => none }
def FnHalvesInCountsTheYearsHalvesAndSplitsWrongFalsely : Prop := fnHalvesInCountsTheYearsHalvesAndSplitsRow.holds Try.pinned (OpenSpec.ofChange fnHalvesInCountsTheYearsHalvesAndSplitsWrong)

/-- 'zzlaws_root_b1.FnHalvesInYearsPartitionThePeriod': WHATEVER THE INPUT: true; the input reads as it did. -/
def fnHalvesInYearsPartitionThePeriodSpec : ChangeSpec := { name := "fnHalvesInYearsPartitionThePeriod", fn := fun _ => fun
  | [d1, d2] => { results := [.lit (.bool true)], args := [d1, d2] }
  | _ => none }
def fnHalvesInYearsPartitionThePeriodRow : OpenClaim := { program := "qxb6617619a", sum := "24bab7bd78061238a78e0ba48747d3c3a82d70c5d5c9d9200eb618abc2c505f4", func := "example.com/vestline/vestline/zzlaws_root_b1.FnHalvesInYearsPartitionThePeriod", spec := "fnHalvesInYearsPartitionThePeriod", apart := false }
def FnHalvesInYearsPartitionThePeriodSaid : Prop := fnHalvesInYearsPartitionThePeriodRow.holds Try.pinned (OpenSpec.ofChange fnHalvesInYearsPartitionThePeriodSpec)

/-- ITS FALSE NEIGHBOUR: 'it returns false'. Refute it at one input. -/
def fnHalvesInYearsPartitionThePeriodWrong : ChangeSpec := { name := "fnHalvesInYearsPartitionThePeriod", fn := fun _ => fun
  | [d1, d2] => { results := [.lit (.bool false)], args := [d1, d2] }
  | _ => none }
def FnHalvesInYearsPartitionThePeriodWrongFalsely : Prop := fnHalvesInYearsPartitionThePeriodRow.holds Try.pinned (OpenSpec.ofChange fnHalvesInYearsPartitionThePeriodWrong)

end Rows
end Go.Proofs.Qxb6617619a
