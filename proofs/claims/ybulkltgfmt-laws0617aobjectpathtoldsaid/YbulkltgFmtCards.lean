/-
  DERIVED. GIVEN WITH THE SEED: THE CARDS: each row of YbulkltgFmtRows.lean that lists a variable, with what it lists TIED to the program's text (the seventh form; the later family's looks); each row that meets fmt, with fmt's text TOLD by the authors' own Lean function (tested against real Go, not proved from fmt's source: count such statements apart). THE CARD IS WHAT COUNTS. Prove the row's statement (the work); the ties are given (YbulkltgFmtTie.lean); close each card by the builder's one call (the guide's Derived/Test/ToyasCard.lean, 'card_holds'). Laid BY PROGRAM, IN A SANDBOX (cutbox-door.mjs). By AI agents, Wed Nov 11 2026. No macro, syntax, notation, axiom, sorry.
-/
import Derived.Test.YbulkltgFmtRows
import GoSem.ClaimSeven
namespace Go.Proofs.YbulkltgFmt
namespace Rows

/-- THE TOLD CARD OF 'config.LawS0617AObjectPath'. -/
def lawS0617AObjectPathCard : Claim7 := { stood := { row := lawS0617AObjectPathRow, standIns := [], harness := (true, "6aaf72a79f04968b20cd2ed72d0a466c94f75f2a9cfb032c3a6cc05d84e2fd93"), looks := false }, told := true, goes := false }
def LawS0617AObjectPathToldSaid : Prop := Claim7.holds Ybaf.pinned (.plain (OpenSpec.ofChange lawS0617AObjectPathSpec)) lawS0617AObjectPathCard
/-- ITS FALSE NEIGHBOUR. Refute it at one input. -/
def LawS0617AObjectPathToldWrongFalsely : Prop := Claim7.holds Ybaf.pinned (.plain (OpenSpec.ofChange lawS0617AObjectPathWrong)) lawS0617AObjectPathCard

/-- THE TOLD CARD OF 'config.LawS0617BRange'. -/
def lawS0617BRangeCard : Claim7 := { stood := { row := lawS0617BRangeRow, standIns := [], harness := (true, "6aaf72a79f04968b20cd2ed72d0a466c94f75f2a9cfb032c3a6cc05d84e2fd93"), looks := false }, told := true, goes := false }
def LawS0617BRangeToldSaid : Prop := Claim7.holds Ybaf.pinned (.plain (OpenSpec.ofChange lawS0617BRangeSpec)) lawS0617BRangeCard
/-- ITS FALSE NEIGHBOUR. Refute it at one input. -/
def LawS0617BRangeToldWrongFalsely : Prop := Claim7.holds Ybaf.pinned (.plain (OpenSpec.ofChange lawS0617BRangeWrong)) lawS0617BRangeCard

/-- THE TOLD CARD OF 'config.LawS0617BBounds'. -/
def lawS0617BBoundsCard : Claim7 := { stood := { row := lawS0617BBoundsRow, standIns := [], harness := (true, "6aaf72a79f04968b20cd2ed72d0a466c94f75f2a9cfb032c3a6cc05d84e2fd93"), looks := false }, told := true, goes := false }
def LawS0617BBoundsToldSaid : Prop := Claim7.holds Ybaf.pinned (.plain (OpenSpec.ofChange lawS0617BBoundsSpec)) lawS0617BBoundsCard
/-- ITS FALSE NEIGHBOUR. Refute it at one input. -/
def LawS0617BBoundsToldWrongFalsely : Prop := Claim7.holds Ybaf.pinned (.plain (OpenSpec.ofChange lawS0617BBoundsWrong)) lawS0617BBoundsCard
end Rows
end Go.Proofs.YbulkltgFmt
