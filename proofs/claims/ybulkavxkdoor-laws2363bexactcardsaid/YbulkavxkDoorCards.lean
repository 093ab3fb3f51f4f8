/-
  DERIVED. GIVEN WITH THE SEED: THE CARDS: each row of YbulkavxkDoorRows.lean that lists a variable, with what it lists TIED to the program's text (the seventh form; the later family's looks); each row that meets fmt, with fmt's text TOLD by the authors' own Lean function (tested against real Go, not proved from fmt's source: count such statements apart). THE CARD IS WHAT COUNTS. Prove the row's statement (the work); the ties are given (YbulkavxkDoorTie.lean); close each card by the builder's one call (the guide's Derived/Test/ToyasCard.lean, 'card_holds'). Laid BY PROGRAM, IN A SANDBOX (cutbox-door.mjs). By AI agents, Wed Nov 11 2026. No macro, syntax, notation, axiom, sorry.
-/
import Derived.Test.YbulkavxkDoorRows
import GoSem.ClaimSeven
namespace Go.Proofs.YbulkavxkDoor
namespace Rows

/-- THE TIED CARD OF 'xorlattice.LawS2363AModel'. -/
def lawS2363AModelCard : Claim7 := { stood := { row := lawS2363AModelRow, standIns := [], harness := (true, "60d5b6e99c570e864c8b43928f967b54702712206b9861dae53c0fa3907ff9f8"), looks := false }, kinds := [], alts := [], laidByText := true, laidKinds := [.called, .called, .zero], laidTests := true, laidLooks := .later }
def LawS2363AModelCardSaid : Prop := Claim7.holds Ybad.pinned (.plain (OpenSpec.ofChange lawS2363AModelSpec)) lawS2363AModelCard

/-- THE TIED CARD OF 'xorlattice.LawS2363BExact'. -/
def lawS2363BExactCard : Claim7 := { stood := { row := lawS2363BExactRow, standIns := [], harness := (true, "60d5b6e99c570e864c8b43928f967b54702712206b9861dae53c0fa3907ff9f8"), looks := false }, kinds := [], alts := [], laidByText := true, laidKinds := [.called, .called, .zero], laidTests := true, laidLooks := .later }
def LawS2363BExactCardSaid : Prop := Claim7.holds Ybad.pinned (.plain (OpenSpec.ofChange lawS2363BExactSpec)) lawS2363BExactCard

/-- THE TIED CARD OF 'xorlattice.LawS2363BIdem'. -/
def lawS2363BIdemCard : Claim7 := { stood := { row := lawS2363BIdemRow, standIns := [], harness := (true, "60d5b6e99c570e864c8b43928f967b54702712206b9861dae53c0fa3907ff9f8"), looks := false }, kinds := [], alts := [], laidByText := true, laidKinds := [.called, .called, .zero], laidTests := true, laidLooks := .later }
def LawS2363BIdemCardSaid : Prop := Claim7.holds Ybad.pinned (.plain (OpenSpec.ofChange lawS2363BIdemSpec)) lawS2363BIdemCard
end Rows
end Go.Proofs.YbulkavxkDoor
