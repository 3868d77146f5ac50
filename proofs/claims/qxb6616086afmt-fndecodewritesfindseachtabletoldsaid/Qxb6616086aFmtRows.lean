/-
  No cell of these rows narrows 'for every input' (looked for: loops, veiled, ifaces, maps, wideKeys, modest, calm, conditions, laid).
  DERIVED. THE GIVEN ROWS OF THIS SEAT. 2 by the template 'for every input the law returns true; each argument reads behind the call as it read before'; 0 by the template 'total and deterministic' (their statements: Qxb6616086aFmtTotals.lean).
  GIVEN WITH THE SEED: the statements are not yours to turn. If you find one false, say at which input.
  Laid BY PROGRAM, IN A SANDBOX (cutbox-rows.mjs): the forced cells as the released guide's own fill.sh prints them over the translation 2050194e4c36eec0… (all of the seat's roots in one cut). By AI agents, Wed Nov 11 2026. No macro, syntax, notation, axiom, sorry.
-/
import Derived.Test.Qxb6616086aFmtChecked
import GoSem.Claim
import GoSem.ClaimJoined
import GoSem.ClaimMapViews
import Derived.JoinedTies
import Derived.KernelRfl
namespace Go.Proofs.Qxb6616086aFmt
/- THE CELL 'sum', in the pinned program and in every row, IS THE sha256 OF THE DUMP (.gsa) THAT Qxb6616086aFmtProg.lean LOADS. Nothing in Lean hashes anything: it is a label: what it is worth is what the hold of that sum in a sandbox is worth. -/
noncomputable def Tryf.pinned : Pinned := { name := "qxb6616086afmt", sum := "2050194e4c36eec0585fafcc7458b290333f724ea89ebdac0424de15bd1a2679", checked := Tryf.checked }
namespace Rows
def none {H : Type} : Left H := { results := [], args := [] }

/-- 'zzlaws_root_b1.FnDecodeWritesMatchesFormat': WHATEVER THE INPUT: true; the input reads as it did. -/
def fnDecodeWritesMatchesFormatSpec : ChangeSpec := { name := "fnDecodeWritesMatchesFormat", fn := fun _ => fun
  | [d] => { results := [.lit (.bool true)], args := [d] }
  | _ => none }
def fnDecodeWritesMatchesFormatRow : OpenClaim := { program := "qxb6616086afmt", sum := "2050194e4c36eec0585fafcc7458b290333f724ea89ebdac0424de15bd1a2679", func := "example.com/seriatim/seriatim/zzlaws_root_b1.FnDecodeWritesMatchesFormat", spec := "fnDecodeWritesMatchesFormat", stops := ["fmt.errorf"], inPlace := ["fmt.errorf"], unfollowed := true, recurses := true, apart := false }
/-- NO THEOREM (fmt's text is open here; it may be false): for the released tool's asking of the row's closed facts alone. THE STATEMENT IS 'FnDecodeWritesMatchesFormatToldSaid' (Qxb6616086aFmtCards.lean). -/
def FnDecodeWritesMatchesFormatFormAsk : Prop := fnDecodeWritesMatchesFormatRow.holds Tryf.pinned (OpenSpec.ofChange fnDecodeWritesMatchesFormatSpec)

/-- ITS FALSE NEIGHBOUR: 'it returns false'. Refute it at one input. -/
def fnDecodeWritesMatchesFormatWrong : ChangeSpec := { name := "fnDecodeWritesMatchesFormat", fn := fun _ => fun
  | [d] => { results := [.lit (.bool false)], args := [d] }
  | _ => none }
def FnDecodeWritesMatchesFormatWrongFormAsk : Prop := fnDecodeWritesMatchesFormatRow.holds Tryf.pinned (OpenSpec.ofChange fnDecodeWritesMatchesFormatWrong)

/-- 'zzlaws_root_b1.FnDecodeWritesFindsEachTable': WHATEVER THE INPUT: true; the input reads as it did. -/
def fnDecodeWritesFindsEachTableSpec : ChangeSpec := { name := "fnDecodeWritesFindsEachTable", fn := fun _ => fun
  | [d1, d2] => { results := [.lit (.bool true)], args := [d1, d2] }
  | _ => none }
def fnDecodeWritesFindsEachTableRow : OpenClaim := { program := "qxb6616086afmt", sum := "2050194e4c36eec0585fafcc7458b290333f724ea89ebdac0424de15bd1a2679", func := "example.com/seriatim/seriatim/zzlaws_root_b1.FnDecodeWritesFindsEachTable", spec := "fnDecodeWritesFindsEachTable", stops := ["fmt.errorf"], inPlace := ["fmt.errorf"], unfollowed := true, recurses := true, apart := false }
/-- NO THEOREM (fmt's text is open here; it may be false): for the released tool's asking of the row's closed facts alone. THE STATEMENT IS 'FnDecodeWritesFindsEachTableToldSaid' (Qxb6616086aFmtCards.lean). -/
def FnDecodeWritesFindsEachTableFormAsk : Prop := fnDecodeWritesFindsEachTableRow.holds Tryf.pinned (OpenSpec.ofChange fnDecodeWritesFindsEachTableSpec)

/-- ITS FALSE NEIGHBOUR: 'it returns false'. Refute it at one input. -/
def fnDecodeWritesFindsEachTableWrong : ChangeSpec := { name := "fnDecodeWritesFindsEachTable", fn := fun _ => fun
  | [d1, d2] => { results := [.lit (.bool false)], args := [d1, d2] }
  | _ => none }
def FnDecodeWritesFindsEachTableWrongFormAsk : Prop := fnDecodeWritesFindsEachTableRow.holds Tryf.pinned (OpenSpec.ofChange fnDecodeWritesFindsEachTableWrong)

end Rows
end Go.Proofs.Qxb6616086aFmt
