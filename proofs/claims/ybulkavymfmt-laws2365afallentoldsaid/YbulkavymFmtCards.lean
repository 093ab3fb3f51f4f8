/-
  DERIVED. GIVEN WITH THE SEED: THE CARDS: each row of YbulkavymFmtRows.lean that lists a variable, with what it lists TIED to the program's text (the seventh form; the later family's looks); each row that meets fmt, with fmt's text TOLD by the authors' own Lean function (tested against real Go, not proved from fmt's source: count such statements apart). THE CARD IS WHAT COUNTS. Prove the row's statement (the work); the ties are given (YbulkavymFmtTie.lean); close each card by the builder's one call (the guide's Derived/Test/ToyasCard.lean, 'card_holds'). Laid BY PROGRAM, IN A SANDBOX (cutbox-door.mjs). By AI agents, Wed Nov 11 2026. No macro, syntax, notation, axiom, sorry.
-/
import Derived.Test.YbulkavymFmtRows
import GoSem.ClaimSeven
namespace Go.Proofs.YbulkavymFmt
namespace Rows

/-- THE TOLD CARD OF 'optimistic.LawS2365AFallen'. -/
def lawS2365AFallenCard : Claim7 := { stood := { row := lawS2365AFallenRow, standIns := [], harness := (true, "6bd0b7cb972ef17a33785a5689a44a06d480884a0ff0039f2eaddf50cdcf2cbd"), looks := true }, told := true, goes := false }
def LawS2365AFallenToldSaid : Prop := Claim7.holds Ybaf.pinned (.plain (OpenSpec.ofChange lawS2365AFallenSpec)) lawS2365AFallenCard
/-- ITS FALSE NEIGHBOUR. Refute it at one input. -/
def LawS2365AFallenToldWrongFalsely : Prop := Claim7.holds Ybaf.pinned (.plain (OpenSpec.ofChange lawS2365AFallenWrong)) lawS2365AFallenCard
end Rows
end Go.Proofs.YbulkavymFmt
