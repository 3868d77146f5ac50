/-
  DERIVED. GIVEN WITH THE SEED: THE CARDS: each row of Qxb6616086aFmtRows.lean that lists a variable, with what it lists TIED to the program's text (the seventh form; the later family's looks); each row that meets fmt, with fmt's text TOLD by the authors' own Lean function (tested against real Go, not proved from fmt's source: count such statements apart). THE CARD IS WHAT COUNTS. Prove the row's statement (the work); the ties are given (Qxb6616086aFmtTie.lean); close each card by the builder's one call (the guide's Derived/Test/ToyasCard.lean, 'card_holds'). Laid BY PROGRAM, IN A SANDBOX (cutbox-door.mjs). By AI agents, Wed Nov 11 2026. No macro, syntax, notation, axiom, sorry.
-/
import Derived.Test.Qxb6616086aFmtRows
import GoSem.ClaimSeven
namespace Go.Proofs.Qxb6616086aFmt
namespace Rows

/-- THE TOLD CARD OF 'zzlaws_root_b1.FnDecodeWritesMatchesFormat'. -/
def fnDecodeWritesMatchesFormatCard : Claim7 := { stood := { row := fnDecodeWritesMatchesFormatRow, standIns := [], harness := (true, "a95dd9e68873387e8483f079d02ee09148384659e11b4d1d1d873be9c9b00541"), looks := false }, told := true, goes := false }
def FnDecodeWritesMatchesFormatToldSaid : Prop := Claim7.holds Tryf.pinned (.plain (OpenSpec.ofChange fnDecodeWritesMatchesFormatSpec)) fnDecodeWritesMatchesFormatCard
/-- ITS FALSE NEIGHBOUR. Refute it at one input. -/
def FnDecodeWritesMatchesFormatToldWrongFalsely : Prop := Claim7.holds Tryf.pinned (.plain (OpenSpec.ofChange fnDecodeWritesMatchesFormatWrong)) fnDecodeWritesMatchesFormatCard

/-- THE TOLD CARD OF 'zzlaws_root_b1.FnDecodeWritesFindsEachTable'. -/
def fnDecodeWritesFindsEachTableCard : Claim7 := { stood := { row := fnDecodeWritesFindsEachTableRow, standIns := [], harness := (true, "a95dd9e68873387e8483f079d02ee09148384659e11b4d1d1d873be9c9b00541"), looks := false }, told := true, goes := false }
def FnDecodeWritesFindsEachTableToldSaid : Prop := Claim7.holds Tryf.pinned (.plain (OpenSpec.ofChange fnDecodeWritesFindsEachTableSpec)) fnDecodeWritesFindsEachTableCard
/-- ITS FALSE NEIGHBOUR. Refute it at one input. -/
def FnDecodeWritesFindsEachTableToldWrongFalsely : Prop := Claim7.holds Tryf.pinned (.plain (OpenSpec.ofChange fnDecodeWritesFindsEachTableWrong)) fnDecodeWritesFindsEachTableCard
end Rows
end Go.Proofs.Qxb6616086aFmt
