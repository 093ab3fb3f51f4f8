/-
  DERIVED. GIVEN WITH THE SEED: THE CARDS: each row of YbulkavxyFmtRows.lean that lists a variable, with what it lists TIED to the program's text (the seventh form; the later family's looks); each row that meets fmt, with fmt's text TOLD by the authors' own Lean function (tested against real Go, not proved from fmt's source: count such statements apart). THE CARD IS WHAT COUNTS. Prove the row's statement (the work); the ties are given (YbulkavxyFmtTie.lean); close each card by the builder's one call (the guide's Derived/Test/ToyasCard.lean, 'card_holds'). Laid BY PROGRAM, IN A SANDBOX (cutbox-door.mjs). By AI agents, Wed Nov 11 2026. No macro, syntax, notation, axiom, sorry.
-/
import Derived.Test.YbulkavxyFmtRows
import GoSem.ClaimSeven
namespace Go.Proofs.YbulkavxyFmt
namespace Rows

/-- THE TOLD AND TIED CARD OF 'tend.LawS2364CApply'. -/
def lawS2364CApplyCard : Claim7 := { stood := { row := lawS2364CApplyRow, standIns := [], harness := (true, "1953e8a63ccc3246c5d4f76856e9fac7e9107d0a79b5b59f5a89710fbc4961cc"), looks := true }, told := true, laidByText := true, laidKinds := [.sentinel], laidTests := true, laidLooks := .later, goes := false }
def LawS2364CApplyToldSaid : Prop := Claim7.holds Ybaf.pinned (.plain (OpenSpec.ofChange lawS2364CApplySpec)) lawS2364CApplyCard
/-- ITS FALSE NEIGHBOUR. Refute it at one input. -/
def LawS2364CApplyToldWrongFalsely : Prop := Claim7.holds Ybaf.pinned (.plain (OpenSpec.ofChange lawS2364CApplyWrong)) lawS2364CApplyCard

/-- THE TOLD AND TIED CARD OF 'tend.LawS2364CTwice'. -/
def lawS2364CTwiceCard : Claim7 := { stood := { row := lawS2364CTwiceRow, standIns := [], harness := (true, "1953e8a63ccc3246c5d4f76856e9fac7e9107d0a79b5b59f5a89710fbc4961cc"), looks := true }, told := true, laidByText := true, laidKinds := [.sentinel], laidTests := true, laidLooks := .later, goes := false }
def LawS2364CTwiceToldSaid : Prop := Claim7.holds Ybaf.pinned (.plain (OpenSpec.ofChange lawS2364CTwiceSpec)) lawS2364CTwiceCard
/-- ITS FALSE NEIGHBOUR. Refute it at one input. -/
def LawS2364CTwiceToldWrongFalsely : Prop := Claim7.holds Ybaf.pinned (.plain (OpenSpec.ofChange lawS2364CTwiceWrong)) lawS2364CTwiceCard
end Rows
end Go.Proofs.YbulkavxyFmt
